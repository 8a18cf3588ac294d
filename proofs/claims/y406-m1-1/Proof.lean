import JvmDerived
import JvmDerived.Pilot.@@N@@Statement
import JvmDerived.Pilot.@@N@@Code
set_option linter.unusedVariables false
set_option linter.unusedSimpArgs false
namespace Jvm.Pilot.@@N@@
open Jvm Jvm.ClassFile Sem Op Lib Jvm.Free Jvm.Stand Jvm.LawKit Jvm.RoadKit Bundle Jvm.Pilot.@@N@@.Jvm.D
def own_QP (r : Option Value) (h0 : Heap) (n0 : Nat) (v : Option Value) (h : Heap) (L : List Loc) : Prop := v = r ∧ Fr n0 L ∧ h = h0
def own_Q0 (n0 : Nat) (v : Option Value) (h : Heap) (L : List Loc) : Prop := v = some (.int 1) ∧ Fr n0 L
section OwnWords
variable {args : Array Value} {s : State}
theorem own_eqI {t : Term} {k : Int32} (h : (Jvm.Cond.eq t (.int k)).value args s none s [] = some true) : t.eval args s none [] s = some (.int k) := by
  obtain ⟨x, y, h1, h2, h3, h4⟩ := cmp_v (Or.inl h)
  obtain rfl : y = .int k := (Option.some.inj h2).symm
  obtain ⟨z, rfl⟩ := h4
  have q := gotT (Cond.eq_ints h1 h2) h
  rw [h1, q]
theorem own_eqR {t u : Term} {b : Addr} (h : (Jvm.Cond.eq t u).value args s none s [] = some true) (hu : u.eval args s none [] s = some (.ref b)) : t.eval args s none [] s = some (.ref b) := by
  obtain ⟨x, y, h1, h2, h3, h4⟩ := cmp_v (Or.inl h)
  obtain rfl : y = .ref b := Option.some.inj (h2.symm.trans hu)
  have q := gotT (eq_R h1 h2 h4.2 h4.1) h
  rw [h1, q]
theorem own_fld {t : Term} {C n d : String} {a : Addr} {v : Value} (ht : t.eval args s none [] s = some (.ref a)) (h : (Term.field t C n d).eval args s none [] s = some v) : Fld s s.heap a C n d v := Fld.start ((fld_at ht).symm.trans h)
end OwnWords
theorem own_staKeep {Z : State} {h h' : Heap} {C n d : String} {v : Value} {ws : List Addr} (F : Sta Z h C n d v) (K : Keep h h' ws) (q : ∀ x ∈ ws, ∀ cell : Cell, h[x]? = some cell → cell.vm.isStatics = false) : Sta Z h' C n d v := by
  obtain ⟨cf, i, k, f, st, cell, h1, h2, h3, h4, h5, h6, h7⟩ := F
  refine ⟨cf, i, k, f, st, cell, h1, h2, h3, h4, K.2.1 st cell h5 (fun z => ?_), h6, h7⟩
  rw [q st z cell h5] at h6; cases h6
theorem d1_0 : decode prog_92_method_13_code 0 = .ok (.aload_n 0, 1) := by decide +kernel
theorem d1_1 : decode prog_92_method_13_code 1 = .ok (.getfield 79, 3) := by decide +kernel
theorem d1_4 : decode prog_92_method_13_code 4 = .ok (.getstatic 210, 3) := by decide +kernel
theorem d1_7 : decode prog_92_method_13_code 7 = .ok (.if_acmp .ne 7, 3) := by decide +kernel
theorem d1_10 : decode prog_92_method_13_code 10 = .ok (.iconst 1, 1) := by decide +kernel
theorem d1_11 : decode prog_92_method_13_code 11 = .ok (.goto 4, 3) := by decide +kernel
theorem d1_15 : decode prog_92_method_13_code 15 = .ok (.ireturn, 1) := by decide +kernel
theorem pn_1 : plainName "com/example/librowmap/librowmap/sql/Dialect" = true := by first | (simp [plainName, overriddenIn]; done) | decide +kernel
theorem d1_14 : decode prog_92_method_13_code 14 = .ok (.iconst 0, 1) := by decide +kernel
theorem pd___Z : parseMethodDescriptor "()Z" = some ⟨[], some .boolean⟩ := by decide +kernel
theorem pn_0 : plainName "com/example/librowmap/librowmap/sql/DialectReadsDateTimesThroughUtcCalendarPinLaw" = true := by first | (simp [plainName, overriddenIn]; done) | decide +kernel
theorem ef_rm1T (m : MethodId) (u0 : Addr) : entryFrame m #[(.ref u0)] 1 = mkF m 0 #[.val (.ref u0)] [] := by first | (simp [entryFrame, mkF, argsToLocals, Value.category]; done) | rfl
set_option maxRecDepth 65536 in
set_option maxHeartbeats 40000000 in
theorem rm1T (l : Launch) (Z : State) (a0 : Array Value) (hw : ∀ d ∈ tables_1, d.before a0 Z = true) (ws : List Jvm.Cond) (u0 : Addr) (wT : Addr) (h0 : Heap) (n0 : Nat) (Z0 : n0 ≤ h0.size) (P_F_u0_Dialect_dateTimeReading : Fld Z h0 u0 "com/example/librowmap/librowmap/sql/Dialect" "dateTimeReading" "Lcom/example/librowmap/librowmap/sql/Dialect$DateTimeReading;" (.ref wT)) (P_S_Dialect_DateTimeReading_THROUGH_UTC_CALENDAR : Sta Z h0 "com/example/librowmap/librowmap/sql/Dialect$DateTimeReading" "THROUGH_UTC_CALENDAR" "Lcom/example/librowmap/librowmap/sql/Dialect$DateTimeReading;" (.ref wT)) :
    MetFree l (⟨"com/example/librowmap/librowmap/sql/Dialect", "readsDateTimesThroughUtcCalendar", "()Z"⟩ : MethodName) (head1 (Jvm.Cond.code (⟨"com/example/librowmap/librowmap/sql/Dialect", "readsDateTimesThroughUtcCalendar", "()Z"⟩ : MethodName) prog_92_method_13_code 1 (some .boolean) :: ws) ({ frames := 0, cells := 0, slots := 0, locals := 0 } : Room)) (fun a U => a = #[(.ref u0)] ∧ Z.Warmed39 U.vm ∧ U.heap = h0) (fun _ _ _ _ _ => True) (fun _ U o U' => ∃ v L, o = .returned v ∧ own_QP (some (.int (1 : Int32))) h0 n0 v U'.heap L ∧ FrameEnd U o U' L ({ frames := 0, cells := 0, slots := 0, locals := 0 } : Room).cells ({ frames := 0, cells := 0, slots := 0, locals := 0 } : Room).slots) := by
  refine MetFree.of_bodySF (plainFor_of_name pn_1) hisR ?_
  intro p e s m args below meth c s₁ Bd hml0 hP hK
  obtain ⟨rfl, hZ, hh⟩ := hP
  have hx := Bd.exec
  have hby := Bd.bytes
  have hml : c.maxLocals = 1 := hml0
  have hown : s.vm.findClass "com/example/librowmap/librowmap/sql/Dialect" = some m.cls := findClass_of_methodNamed Bd.named
  have hnm := (name_of_methodNamed Bd.named Bd.method).1
  have X0 : Stand p l e ({ frames := 0, cells := 0, slots := 0, locals := 0 } : Room) s m #[(.ref u0)] below meth c s₁ [] 0 0 := Stand.of_body Bd
  have e0 : s₁.heap = h0 := by rw [← hh, Bd.state]; rfl
  have N0 := Fr.nil n0
  have pre0 : ∀ t, Steps p.tables e below (s₁.setTop (mkF m 0 #[.val (.ref u0)] [])) t → Steps p.tables e below (s₁.setTop (entryFrame m #[(.ref u0)] 1)) t := fun t k => castTop (ef_rm1T m u0) k
  obtain ⟨T1, X1, e1, st1⟩ := getF X0 hx hZ hown (host := "") (Or.inl (hw _ (List.mem_of_getElem? (i := 8) rfl))) Via.refl e0 P_F_u0_Dialect_dateTimeReading (g := (mkF m 1 #[.val (.ref u0)] [(.ref u0)])) rfl rfl (hb hby d1_1)
  obtain ⟨T2, X2, e2, st2⟩ := getS2 X1 hx hZ hown (host := "") (Or.inl (hw _ (List.mem_of_getElem? (i := 12) rfl))) Via.refl e1 P_S_Dialect_DateTimeReading_THROUGH_UTC_CALENDAR (g := (mkF m 4 #[.val (.ref u0)] [(.ref wT)])) rfl (hb hby d1_4)
  obtain ⟨fs, hr, hrun, hended, hW, hsame⟩ := X2.leave (v := some (.int (1 : Int32))) (fun h => by rw [Bd.returns] at h; cases h)
  refine ⟨_, _, pre0 _ ?_, hrun, hended, _, _, rfl, ?_, ⟨_, rfl⟩, hW, hsame.mono (by decide) (by decide)⟩
  · show Steps p.tables e below (s₁.setTop (mkF m 0 #[.val (.ref u0)] [])) _
    refine XS.aloadN X0.here hx rfl (hb hby d1_0) rfl rfl ?_
    show Steps p.tables e below (s₁.setTop (mkF m 1 #[.val (.ref u0)] [(.ref u0)])) _
    refine st1 _ ?_
    show Steps p.tables e below (T1.setTop (mkF m 4 #[.val (.ref u0)] [(.ref wT)])) _
    refine st2 _ ?_
    show Steps p.tables e below (T2.setTop (mkF m 7 #[.val (.ref u0)] [(.ref wT), (.ref wT)])) _
    refine Jvm.RoadKit.acmp (g := (mkF m 7 #[.val (.ref u0)] [(.ref wT), (.ref wT)])) X2 hx rfl rfl rfl (pc0 := 7) (pc' := 10) (same := true) rfl (hb hby d1_7) rfl (decide_eq_true rfl) (by decide) (by decide) ?_
    show Steps p.tables e below (T2.setTop (mkF m 10 #[.val (.ref u0)] [])) _
    refine XS.iconst X2.here hx rfl (hb hby d1_10) ?_
    show Steps p.tables e below (T2.setTop (mkF m 11 #[.val (.ref u0)] [(.int (1 : Int32))])) _
    refine XS.goto X2.here hx rfl (pc0 := 11) (pc' := 15) rfl (hb hby d1_11) (by decide) (by decide) ?_
    show Steps p.tables e below (T2.setTop (mkF m 15 #[.val (.ref u0)] [(.int (1 : Int32))])) _
    exact retN X2 hx (t := .boolean) Bd.returns (by simp) (hb hby d1_15) hr
  · show own_QP (some (.int (1 : Int32))) h0 n0 _ T2.heap _
    rw [e2]
    exact ⟨rfl, N0, rfl⟩

theorem ef_rm1A (m : MethodId) (u0 : Addr) : entryFrame m #[(.ref u0)] 1 = mkF m 0 #[.val (.ref u0)] [] := by first | (simp [entryFrame, mkF, argsToLocals, Value.category]; done) | rfl
set_option maxRecDepth 65536 in
set_option maxHeartbeats 40000000 in
theorem rm1A (l : Launch) (Z : State) (a0 : Array Value) (hw : ∀ d ∈ tables_1, d.before a0 Z = true) (ws : List Jvm.Cond) (u0 : Addr) (wA : Addr) (wT : Addr) (h0 : Heap) (n0 : Nat) (Z0 : n0 ≤ h0.size) (P_F_u0_Dialect_dateTimeReading : Fld Z h0 u0 "com/example/librowmap/librowmap/sql/Dialect" "dateTimeReading" "Lcom/example/librowmap/librowmap/sql/Dialect$DateTimeReading;" (.ref wA)) (P_S_Dialect_DateTimeReading_THROUGH_UTC_CALENDAR : Sta Z h0 "com/example/librowmap/librowmap/sql/Dialect$DateTimeReading" "THROUGH_UTC_CALENDAR" "Lcom/example/librowmap/librowmap/sql/Dialect$DateTimeReading;" (.ref wT)) (ne0 : wA ≠ wT) :
    MetFree l (⟨"com/example/librowmap/librowmap/sql/Dialect", "readsDateTimesThroughUtcCalendar", "()Z"⟩ : MethodName) (head1 (Jvm.Cond.code (⟨"com/example/librowmap/librowmap/sql/Dialect", "readsDateTimesThroughUtcCalendar", "()Z"⟩ : MethodName) prog_92_method_13_code 1 (some .boolean) :: ws) ({ frames := 0, cells := 0, slots := 0, locals := 0 } : Room)) (fun a U => a = #[(.ref u0)] ∧ Z.Warmed39 U.vm ∧ U.heap = h0) (fun _ _ _ _ _ => True) (fun _ U o U' => ∃ v L, o = .returned v ∧ own_QP (some (.int (0 : Int32))) h0 n0 v U'.heap L ∧ FrameEnd U o U' L ({ frames := 0, cells := 0, slots := 0, locals := 0 } : Room).cells ({ frames := 0, cells := 0, slots := 0, locals := 0 } : Room).slots) := by
  refine MetFree.of_bodySF (plainFor_of_name pn_1) hisR ?_
  intro p e s m args below meth c s₁ Bd hml0 hP hK
  obtain ⟨rfl, hZ, hh⟩ := hP
  have hx := Bd.exec
  have hby := Bd.bytes
  have hml : c.maxLocals = 1 := hml0
  have hown : s.vm.findClass "com/example/librowmap/librowmap/sql/Dialect" = some m.cls := findClass_of_methodNamed Bd.named
  have hnm := (name_of_methodNamed Bd.named Bd.method).1
  have X0 : Stand p l e ({ frames := 0, cells := 0, slots := 0, locals := 0 } : Room) s m #[(.ref u0)] below meth c s₁ [] 0 0 := Stand.of_body Bd
  have e0 : s₁.heap = h0 := by rw [← hh, Bd.state]; rfl
  have N0 := Fr.nil n0
  have pre0 : ∀ t, Steps p.tables e below (s₁.setTop (mkF m 0 #[.val (.ref u0)] [])) t → Steps p.tables e below (s₁.setTop (entryFrame m #[(.ref u0)] 1)) t := fun t k => castTop (ef_rm1A m u0) k
  obtain ⟨T1, X1, e1, st1⟩ := getF X0 hx hZ hown (host := "") (Or.inl (hw _ (List.mem_of_getElem? (i := 8) rfl))) Via.refl e0 P_F_u0_Dialect_dateTimeReading (g := (mkF m 1 #[.val (.ref u0)] [(.ref u0)])) rfl rfl (hb hby d1_1)
  obtain ⟨T2, X2, e2, st2⟩ := getS2 X1 hx hZ hown (host := "") (Or.inl (hw _ (List.mem_of_getElem? (i := 12) rfl))) Via.refl e1 P_S_Dialect_DateTimeReading_THROUGH_UTC_CALENDAR (g := (mkF m 4 #[.val (.ref u0)] [(.ref wA)])) rfl (hb hby d1_4)
  obtain ⟨fs, hr, hrun, hended, hW, hsame⟩ := X2.leave (v := some (.int (0 : Int32))) (fun h => by rw [Bd.returns] at h; cases h)
  refine ⟨_, _, pre0 _ ?_, hrun, hended, _, _, rfl, ?_, ⟨_, rfl⟩, hW, hsame.mono (by decide) (by decide)⟩
  · show Steps p.tables e below (s₁.setTop (mkF m 0 #[.val (.ref u0)] [])) _
    refine XS.aloadN X0.here hx rfl (hb hby d1_0) rfl rfl ?_
    show Steps p.tables e below (s₁.setTop (mkF m 1 #[.val (.ref u0)] [(.ref u0)])) _
    refine st1 _ ?_
    show Steps p.tables e below (T1.setTop (mkF m 4 #[.val (.ref u0)] [(.ref wA)])) _
    refine st2 _ ?_
    show Steps p.tables e below (T2.setTop (mkF m 7 #[.val (.ref u0)] [(.ref wT), (.ref wA)])) _
    refine Jvm.RoadKit.acmp (g := (mkF m 7 #[.val (.ref u0)] [(.ref wT), (.ref wA)])) X2 hx rfl rfl rfl (pc0 := 7) (pc' := 14) (same := false) rfl (hb hby d1_7) rfl (decide_eq_false fun q => ne0 (Value.ref.inj q)) (by decide) (by decide) ?_
    show Steps p.tables e below (T2.setTop (mkF m 14 #[.val (.ref u0)] [])) _
    refine XS.iconst X2.here hx rfl (hb hby d1_14) ?_
    show Steps p.tables e below (T2.setTop (mkF m 15 #[.val (.ref u0)] [(.int (0 : Int32))])) _
    exact retN X2 hx (t := .boolean) Bd.returns (by simp) (hb hby d1_15) hr
  · show own_QP (some (.int (0 : Int32))) h0 n0 _ T2.heap _
    rw [e2]
    exact ⟨rfl, N0, rfl⟩

theorem ef_rm0 (m : MethodId) (p0 : Int32) : entryFrame m #[(.int p0)] maxLocals = mkF m 0 #[.val (.int p0), .unset, .unset, .unset] [] := by first | (simp [entryFrame, mkF, argsToLocals, Value.category, maxLocals]; done) | rfl
set_option maxRecDepth 65536 in
set_option maxHeartbeats 40000000 in
theorem rm0 (l : Launch) (Z : State) (a0 : Array Value) (hw : ∀ d ∈ tables_1, d.before a0 Z = true) (ws : List Jvm.Cond) (p0 : Int32) (wA : Addr) (wT : Addr) (wP : Addr) (wM : Addr) (wH : Addr) (wQ : Addr) (h0 : Heap) (n0 : Nat) (Z0 : n0 ≤ h0.size) (P_S_Dialect_DateTimeReading_THROUGH_UTC_CALENDAR : Sta Z h0 "com/example/librowmap/librowmap/sql/Dialect$DateTimeReading" "THROUGH_UTC_CALENDAR" "Lcom/example/librowmap/librowmap/sql/Dialect$DateTimeReading;" (.ref wT)) (P_S_Dialect_POSTGRESQL : Sta Z h0 "com/example/librowmap/librowmap/sql/Dialect" "POSTGRESQL" "Lcom/example/librowmap/librowmap/sql/Dialect;" (.ref wP)) (P_E_wP : Exa Z h0 wP "com/example/librowmap/librowmap/sql/Dialect") (P_F_wP_Dialect_dateTimeReading : Fld Z h0 wP "com/example/librowmap/librowmap/sql/Dialect" "dateTimeReading" "Lcom/example/librowmap/librowmap/sql/Dialect$DateTimeReading;" (.ref wA)) (P_S_Dialect_MARIADB : Sta Z h0 "com/example/librowmap/librowmap/sql/Dialect" "MARIADB" "Lcom/example/librowmap/librowmap/sql/Dialect;" (.ref wM)) (P_E_wM : Exa Z h0 wM "com/example/librowmap/librowmap/sql/Dialect") (P_F_wM_Dialect_dateTimeReading : Fld Z h0 wM "com/example/librowmap/librowmap/sql/Dialect" "dateTimeReading" "Lcom/example/librowmap/librowmap/sql/Dialect$DateTimeReading;" (.ref wT)) (P_S_Dialect_H2 : Sta Z h0 "com/example/librowmap/librowmap/sql/Dialect" "H2" "Lcom/example/librowmap/librowmap/sql/Dialect;" (.ref wH)) (P_E_wH : Exa Z h0 wH "com/example/librowmap/librowmap/sql/Dialect") (P_F_wH_Dialect_dateTimeReading : Fld Z h0 wH "com/example/librowmap/librowmap/sql/Dialect" "dateTimeReading" "Lcom/example/librowmap/librowmap/sql/Dialect$DateTimeReading;" (.ref wA)) (P_S_Dialect_SQL_SERVER : Sta Z h0 "com/example/librowmap/librowmap/sql/Dialect" "SQL_SERVER" "Lcom/example/librowmap/librowmap/sql/Dialect;" (.ref wQ)) (P_E_wQ : Exa Z h0 wQ "com/example/librowmap/librowmap/sql/Dialect") (P_F_wQ_Dialect_dateTimeReading : Fld Z h0 wQ "com/example/librowmap/librowmap/sql/Dialect" "dateTimeReading" "Lcom/example/librowmap/librowmap/sql/Dialect$DateTimeReading;" (.ref wA)) (ne0 : wA ≠ wT) :
    MetFree l x (head1 (Jvm.Cond.code x code maxLocals ret :: ws) room_1) (fun a U => a = #[(.int p0)] ∧ Z.Warmed39 U.vm ∧ U.heap = h0) (fun _ _ _ _ _ => True) (fun _ U o U' => ∃ v L, o = .returned v ∧ own_Q0 n0 v U'.heap L ∧ FrameEnd U o U' L room_1.cells room_1.slots) := by
  refine MetFree.of_bodySF (plainFor_of_name pn_0) hisR ?_
  intro p e s m args below meth c s₁ Bd hml0 hP hK
  obtain ⟨rfl, hZ, hh⟩ := hP
  have hx := Bd.exec
  have hby := Bd.bytes
  have hml : c.maxLocals = 4 := hml0
  have hown : s.vm.findClass "com/example/librowmap/librowmap/sql/DialectReadsDateTimesThroughUtcCalendarPinLaw" = some m.cls := findClass_of_methodNamed Bd.named
  have hnm := (name_of_methodNamed Bd.named Bd.method).1
  have X0 : Stand p l e room_1 s m #[(.int p0)] below meth c s₁ [] 0 0 := Stand.of_body Bd
  have e0 : s₁.heap = h0 := by rw [← hh, Bd.state]; rfl
  have N0 := Fr.nil n0
  have pre0 : ∀ t, Steps p.tables e below (s₁.setTop (mkF m 0 #[.val (.int p0), .unset, .unset, .unset] [])) t → Steps p.tables e below (s₁.setTop (entryFrame m #[(.int p0)] maxLocals)) t := fun t k => castTop (ef_rm0 m p0) k
  have pre2 : ∀ t, Steps p.tables e below (s₁.setTop (mkF m 5 #[.val (.int p0), .val (.int (p0 &&& (3 : Int32))), .unset, .unset] [(.int (p0 &&& (3 : Int32)))])) t → Steps p.tables e below (s₁.setTop (entryFrame m #[(.int p0)] maxLocals)) t := fun t kt => pre0 t (by
      show Steps p.tables e below (s₁.setTop (mkF m 0 #[.val (.int p0), .unset, .unset, .unset] [])) _
      refine XS.iloadN X0.here hx rfl (hb hby at_0) rfl ?_
      show Steps p.tables e below (s₁.setTop (mkF m 1 #[.val (.int p0), .unset, .unset, .unset] [(.int p0)])) _
      refine XS.iconst X0.here hx rfl (hb hby at_1) ?_
      show Steps p.tables e below (s₁.setTop (mkF m 2 #[.val (.int p0), .unset, .unset, .unset] [(.int (3 : Int32)), (.int p0)])) _
      refine XS.iand X0.here hx rfl (hb hby at_2) rfl ?_
      show Steps p.tables e below (s₁.setTop (mkF m 3 #[.val (.int p0), .unset, .unset, .unset] [(.int (p0 &&& (3 : Int32)))])) _
      refine XS.istoreN X0.here hx rfl (hb hby at_3) rfl (l' := #[.val (.int p0), .val (.int (p0 &&& (3 : Int32))), .unset, .unset]) rfl ?_
      show Steps p.tables e below (s₁.setTop (mkF m 4 #[.val (.int p0), .val (.int (p0 &&& (3 : Int32))), .unset, .unset] [])) _
      refine XS.iloadN X0.here hx rfl (hb hby at_4) rfl ?_
      exact kt)
  by_cases hc5_1 : (p0 &&& (3 : Int32)) = (0 : Int32)
  · obtain ⟨T3, X3, e3, st3⟩ := getS2 X0 hx hZ hown (host := "") (Or.inl (hw _ (List.mem_of_getElem? (i := 0) rfl))) Via.refl e0 P_S_Dialect_POSTGRESQL (g := (mkF m 8 #[.val (.int p0), .val (.int (p0 &&& (3 : Int32))), .unset, .unset] [])) rfl (hb hby at_8)
    obtain ⟨cq5, kq5, q5a, q5b, q5c⟩ := isOf hZ e3 P_E_wP
    obtain ⟨_, _, ⟨T4, L4, k4, n4⟩, -, X4, ⟨Lc4, hQ4, l4, y4, z4⟩, st4⟩ := X3.virtualBack hx (y := (⟨"com/example/librowmap/librowmap/sql/Dialect", "readsDateTimesThroughUtcCalendar", "()Z"⟩ : MethodName)) (z := (⟨"com/example/librowmap/librowmap/sql/Dialect", "readsDateTimesThroughUtcCalendar", "()Z"⟩ : MethodName)) hown (mvT hZ (hw _ (List.mem_of_getElem? (i := 3) rfl))) (mvT hZ (hw _ (List.mem_of_getElem? (i := 4) rfl))) (notFace_of_selects (args := #[]) (mvT hZ (hw _ (List.mem_of_getElem? (i := 6) rfl)))) (mvT hZ (hw _ (List.mem_of_getElem? (i := 6) rfl))) (mvT hZ (hw _ (List.mem_of_getElem? (i := 5) rfl))) (by decide) (backOf (W := 0) (rm1A l Z a0 hw [] wP wA wT h0 n0 Z0 P_F_wP_Dialect_dateTimeReading P_S_Dialect_DateTimeReading_THROUGH_UTC_CALENDAR ne0) hZ (hw _ (List.mem_of_getElem? (i := 7) rfl)) (hw _ (List.mem_of_getElem? (i := 1) rfl)) (by decide) (by decide)) q5a q5c (g := (mkF m 52 #[.val (.int p0), .val (.int (p0 &&& (3 : Int32))), .val (.ref wP), .val (.int (0 : Int32))] [(.ref wP)])) rfl (by rw [hml]; rfl) (Steps.refl _) (argsL := []) (rest := []) (lenOf pd___Z rfl) rfl (by show 2 * 0 + _ ≤ _; exact Nat.le_of_eq rfl) (hb hby at_52) (fun _ _ => ⟨rfl, e3, (by decide : 0 + 0 ≤ _), (by decide : 0 + 0 ≤ _)⟩)
    dsimp only [Pt.U, Pt.locs, Pt.cells, Pt.slots] at X4 l4 y4 z4 st4 hQ4
    subst l4 y4 z4
    obtain ⟨rfl, N4q, e4⟩ := hQ4
    have N4 := Fr.app N0 N4q
    obtain ⟨fs, hr, hrun, hended, hW, hsame⟩ := X4.leave (v := some (.int (1 : Int32))) (fun h => by rw [Bd.returns] at h; cases h)
    refine ⟨_, _, pre2 _ ?_, hrun, hended, _, _, rfl, ?_, ⟨_, rfl⟩, hW, hsame.mono (by decide) (by decide)⟩
    · show Steps p.tables e below (s₁.setTop (mkF m 5 #[.val (.int p0), .val (.int (p0 &&& (3 : Int32))), .unset, .unset] [(.int (p0 &&& (3 : Int32)))])) _
      refine XS.ifNo X0.here hx rfl (hb hby at_5) rfl ((if0 _ _).trans (teq hc5_1).2) ?_
      show Steps p.tables e below (s₁.setTop (mkF m 8 #[.val (.int p0), .val (.int (p0 &&& (3 : Int32))), .unset, .unset] [])) _
      refine st3 _ ?_
      show Steps p.tables e below (T3.setTop (mkF m 11 #[.val (.int p0), .val (.int (p0 &&& (3 : Int32))), .unset, .unset] [(.ref wP)])) _
      refine XS.astoreN X3.here hx rfl (hb hby at_11) rfl rfl (l' := #[.val (.int p0), .val (.int (p0 &&& (3 : Int32))), .val (.ref wP), .unset]) rfl ?_
      show Steps p.tables e below (T3.setTop (mkF m 12 #[.val (.int p0), .val (.int (p0 &&& (3 : Int32))), .val (.ref wP), .unset] [])) _
      refine XS.iconst X3.here hx rfl (hb hby at_12) ?_
      show Steps p.tables e below (T3.setTop (mkF m 13 #[.val (.int p0), .val (.int (p0 &&& (3 : Int32))), .val (.ref wP), .unset] [(.int (0 : Int32))])) _
      refine XS.istoreN X3.here hx rfl (hb hby at_13) rfl (l' := #[.val (.int p0), .val (.int (p0 &&& (3 : Int32))), .val (.ref wP), .val (.int (0 : Int32))]) rfl ?_
      show Steps p.tables e below (T3.setTop (mkF m 14 #[.val (.int p0), .val (.int (p0 &&& (3 : Int32))), .val (.ref wP), .val (.int (0 : Int32))] [])) _
      refine XS.goto X3.here hx rfl (pc0 := 14) (pc' := 51) rfl (hb hby at_14) (by decide) (by decide) ?_
      show Steps p.tables e below (T3.setTop (mkF m 51 #[.val (.int p0), .val (.int (p0 &&& (3 : Int32))), .val (.ref wP), .val (.int (0 : Int32))] [])) _
      refine XS.aloadN X3.here hx rfl (hb hby at_51) rfl rfl ?_
      show Steps p.tables e below (T3.setTop (mkF m 52 #[.val (.int p0), .val (.int (p0 &&& (3 : Int32))), .val (.ref wP), .val (.int (0 : Int32))] [(.ref wP)])) _
      refine st4.trans ?_
      show Steps p.tables e below (T4.setTop (mkF m 55 #[.val (.int p0), .val (.int (p0 &&& (3 : Int32))), .val (.ref wP), .val (.int (0 : Int32))] [(.int (0 : Int32))])) _
      refine XS.iloadN X4.here hx rfl (hb hby at_55) rfl ?_
      show Steps p.tables e below (T4.setTop (mkF m 56 #[.val (.int p0), .val (.int (p0 &&& (3 : Int32))), .val (.ref wP), .val (.int (0 : Int32))] [(.int (0 : Int32)), (.int (0 : Int32))])) _
      refine XS.icmpNo X4.here hx rfl (hb hby at_56) rfl (teq (by decide : (0 : Int32) = (0 : Int32))).2 ?_
      show Steps p.tables e below (T4.setTop (mkF m 59 #[.val (.int p0), .val (.int (p0 &&& (3 : Int32))), .val (.ref wP), .val (.int (0 : Int32))] [])) _
      refine XS.iconst X4.here hx rfl (hb hby at_59) ?_
      show Steps p.tables e below (T4.setTop (mkF m 60 #[.val (.int p0), .val (.int (p0 &&& (3 : Int32))), .val (.ref wP), .val (.int (0 : Int32))] [(.int (1 : Int32))])) _
      refine XS.goto X4.here hx rfl (pc0 := 60) (pc' := 64) rfl (hb hby at_60) (by decide) (by decide) ?_
      show Steps p.tables e below (T4.setTop (mkF m 64 #[.val (.int p0), .val (.int (p0 &&& (3 : Int32))), .val (.ref wP), .val (.int (0 : Int32))] [(.int (1 : Int32))])) _
      exact retN X4 hx (t := .boolean) Bd.returns (by simp) (hb hby at_64) hr
    · show own_Q0 n0 _ T4.heap _
      rw [e4]
      exact ⟨rfl, N4⟩
  · have pre7 : ∀ t, Steps p.tables e below (s₁.setTop (mkF m 19 #[.val (.int p0), .val (.int (p0 &&& (3 : Int32))), .unset, .unset] [(.int (1 : Int32)), (.int (p0 &&& (3 : Int32)))])) t → Steps p.tables e below (s₁.setTop (entryFrame m #[(.int p0)] maxLocals)) t := fun t kt => pre2 t (by
        show Steps p.tables e below (s₁.setTop (mkF m 5 #[.val (.int p0), .val (.int (p0 &&& (3 : Int32))), .unset, .unset] [(.int (p0 &&& (3 : Int32)))])) _
        refine XS.ifYes X0.here hx rfl (pc0 := 5) (pc' := 17) rfl (hb hby at_5) rfl ((if0 _ _).trans (feq hc5_1).2) (by decide) (by decide) ?_
        show Steps p.tables e below (s₁.setTop (mkF m 17 #[.val (.int p0), .val (.int (p0 &&& (3 : Int32))), .unset, .unset] [])) _
        refine XS.iloadN X0.here hx rfl (hb hby at_17) rfl ?_
        show Steps p.tables e below (s₁.setTop (mkF m 18 #[.val (.int p0), .val (.int (p0 &&& (3 : Int32))), .unset, .unset] [(.int (p0 &&& (3 : Int32)))])) _
        refine XS.iconst X0.here hx rfl (hb hby at_18) ?_
        exact kt)
    by_cases hc19_6 : (p0 &&& (3 : Int32)) = (1 : Int32)
    · obtain ⟨T8, X8, e8, st8⟩ := getS2 X0 hx hZ hown (host := "") (Or.inl (hw _ (List.mem_of_getElem? (i := 18) rfl))) Via.refl e0 P_S_Dialect_MARIADB (g := (mkF m 22 #[.val (.int p0), .val (.int (p0 &&& (3 : Int32))), .unset, .unset] [])) rfl (hb hby at_22)
      obtain ⟨cq10, kq10, q10a, q10b, q10c⟩ := isOf hZ e8 P_E_wM
      obtain ⟨_, _, ⟨T9, L9, k9, n9⟩, -, X9, ⟨Lc9, hQ9, l9, y9, z9⟩, st9⟩ := X8.virtualBack hx (y := (⟨"com/example/librowmap/librowmap/sql/Dialect", "readsDateTimesThroughUtcCalendar", "()Z"⟩ : MethodName)) (z := (⟨"com/example/librowmap/librowmap/sql/Dialect", "readsDateTimesThroughUtcCalendar", "()Z"⟩ : MethodName)) hown (mvT hZ (hw _ (List.mem_of_getElem? (i := 3) rfl))) (mvT hZ (hw _ (List.mem_of_getElem? (i := 4) rfl))) (notFace_of_selects (args := #[]) (mvT hZ (hw _ (List.mem_of_getElem? (i := 6) rfl)))) (mvT hZ (hw _ (List.mem_of_getElem? (i := 6) rfl))) (mvT hZ (hw _ (List.mem_of_getElem? (i := 5) rfl))) (by decide) (backOf (W := 0) (rm1T l Z a0 hw [] wM wT h0 n0 Z0 P_F_wM_Dialect_dateTimeReading P_S_Dialect_DateTimeReading_THROUGH_UTC_CALENDAR) hZ (hw _ (List.mem_of_getElem? (i := 7) rfl)) (hw _ (List.mem_of_getElem? (i := 1) rfl)) (by decide) (by decide)) q10a q10c (g := (mkF m 52 #[.val (.int p0), .val (.int (p0 &&& (3 : Int32))), .val (.ref wM), .val (.int (1 : Int32))] [(.ref wM)])) rfl (by rw [hml]; rfl) (Steps.refl _) (argsL := []) (rest := []) (lenOf pd___Z rfl) rfl (by show 2 * 0 + _ ≤ _; exact Nat.le_of_eq rfl) (hb hby at_52) (fun _ _ => ⟨rfl, e8, (by decide : 0 + 0 ≤ _), (by decide : 0 + 0 ≤ _)⟩)
      dsimp only [Pt.U, Pt.locs, Pt.cells, Pt.slots] at X9 l9 y9 z9 st9 hQ9
      subst l9 y9 z9
      obtain ⟨rfl, N9q, e9⟩ := hQ9
      have N9 := Fr.app N0 N9q
      obtain ⟨fs, hr, hrun, hended, hW, hsame⟩ := X9.leave (v := some (.int (1 : Int32))) (fun h => by rw [Bd.returns] at h; cases h)
      refine ⟨_, _, pre7 _ ?_, hrun, hended, _, _, rfl, ?_, ⟨_, rfl⟩, hW, hsame.mono (by decide) (by decide)⟩
      · show Steps p.tables e below (s₁.setTop (mkF m 19 #[.val (.int p0), .val (.int (p0 &&& (3 : Int32))), .unset, .unset] [(.int (1 : Int32)), (.int (p0 &&& (3 : Int32)))])) _
        refine XS.icmpNo X0.here hx rfl (hb hby at_19) rfl (teq hc19_6).2 ?_
        show Steps p.tables e below (s₁.setTop (mkF m 22 #[.val (.int p0), .val (.int (p0 &&& (3 : Int32))), .unset, .unset] [])) _
        refine st8 _ ?_
        show Steps p.tables e below (T8.setTop (mkF m 25 #[.val (.int p0), .val (.int (p0 &&& (3 : Int32))), .unset, .unset] [(.ref wM)])) _
        refine XS.astoreN X8.here hx rfl (hb hby at_25) rfl rfl (l' := #[.val (.int p0), .val (.int (p0 &&& (3 : Int32))), .val (.ref wM), .unset]) rfl ?_
        show Steps p.tables e below (T8.setTop (mkF m 26 #[.val (.int p0), .val (.int (p0 &&& (3 : Int32))), .val (.ref wM), .unset] [])) _
        refine XS.iconst X8.here hx rfl (hb hby at_26) ?_
        show Steps p.tables e below (T8.setTop (mkF m 27 #[.val (.int p0), .val (.int (p0 &&& (3 : Int32))), .val (.ref wM), .unset] [(.int (1 : Int32))])) _
        refine XS.istoreN X8.here hx rfl (hb hby at_27) rfl (l' := #[.val (.int p0), .val (.int (p0 &&& (3 : Int32))), .val (.ref wM), .val (.int (1 : Int32))]) rfl ?_
        show Steps p.tables e below (T8.setTop (mkF m 28 #[.val (.int p0), .val (.int (p0 &&& (3 : Int32))), .val (.ref wM), .val (.int (1 : Int32))] [])) _
        refine XS.goto X8.here hx rfl (pc0 := 28) (pc' := 51) rfl (hb hby at_28) (by decide) (by decide) ?_
        show Steps p.tables e below (T8.setTop (mkF m 51 #[.val (.int p0), .val (.int (p0 &&& (3 : Int32))), .val (.ref wM), .val (.int (1 : Int32))] [])) _
        refine XS.aloadN X8.here hx rfl (hb hby at_51) rfl rfl ?_
        show Steps p.tables e below (T8.setTop (mkF m 52 #[.val (.int p0), .val (.int (p0 &&& (3 : Int32))), .val (.ref wM), .val (.int (1 : Int32))] [(.ref wM)])) _
        refine st9.trans ?_
        show Steps p.tables e below (T9.setTop (mkF m 55 #[.val (.int p0), .val (.int (p0 &&& (3 : Int32))), .val (.ref wM), .val (.int (1 : Int32))] [(.int (1 : Int32))])) _
        refine XS.iloadN X9.here hx rfl (hb hby at_55) rfl ?_
        show Steps p.tables e below (T9.setTop (mkF m 56 #[.val (.int p0), .val (.int (p0 &&& (3 : Int32))), .val (.ref wM), .val (.int (1 : Int32))] [(.int (1 : Int32)), (.int (1 : Int32))])) _
        refine XS.icmpNo X9.here hx rfl (hb hby at_56) rfl (teq (by decide : (1 : Int32) = (1 : Int32))).2 ?_
        show Steps p.tables e below (T9.setTop (mkF m 59 #[.val (.int p0), .val (.int (p0 &&& (3 : Int32))), .val (.ref wM), .val (.int (1 : Int32))] [])) _
        refine XS.iconst X9.here hx rfl (hb hby at_59) ?_
        show Steps p.tables e below (T9.setTop (mkF m 60 #[.val (.int p0), .val (.int (p0 &&& (3 : Int32))), .val (.ref wM), .val (.int (1 : Int32))] [(.int (1 : Int32))])) _
        refine XS.goto X9.here hx rfl (pc0 := 60) (pc' := 64) rfl (hb hby at_60) (by decide) (by decide) ?_
        show Steps p.tables e below (T9.setTop (mkF m 64 #[.val (.int p0), .val (.int (p0 &&& (3 : Int32))), .val (.ref wM), .val (.int (1 : Int32))] [(.int (1 : Int32))])) _
        exact retN X9 hx (t := .boolean) Bd.returns (by simp) (hb hby at_64) hr
      · show own_Q0 n0 _ T9.heap _
        rw [e9]
        exact ⟨rfl, N9⟩
    · have pre12 : ∀ t, Steps p.tables e below (s₁.setTop (mkF m 33 #[.val (.int p0), .val (.int (p0 &&& (3 : Int32))), .unset, .unset] [(.int (2 : Int32)), (.int (p0 &&& (3 : Int32)))])) t → Steps p.tables e below (s₁.setTop (entryFrame m #[(.int p0)] maxLocals)) t := fun t kt => pre7 t (by
          show Steps p.tables e below (s₁.setTop (mkF m 19 #[.val (.int p0), .val (.int (p0 &&& (3 : Int32))), .unset, .unset] [(.int (1 : Int32)), (.int (p0 &&& (3 : Int32)))])) _
          refine XS.icmpYes X0.here hx rfl (pc0 := 19) (pc' := 31) rfl (hb hby at_19) rfl (feq hc19_6).2 (by decide) (by decide) ?_
          show Steps p.tables e below (s₁.setTop (mkF m 31 #[.val (.int p0), .val (.int (p0 &&& (3 : Int32))), .unset, .unset] [])) _
          refine XS.iloadN X0.here hx rfl (hb hby at_31) rfl ?_
          show Steps p.tables e below (s₁.setTop (mkF m 32 #[.val (.int p0), .val (.int (p0 &&& (3 : Int32))), .unset, .unset] [(.int (p0 &&& (3 : Int32)))])) _
          refine XS.iconst X0.here hx rfl (hb hby at_32) ?_
          exact kt)
      by_cases hc33_11 : (p0 &&& (3 : Int32)) = (2 : Int32)
      · obtain ⟨T13, X13, e13, st13⟩ := getS2 X0 hx hZ hown (host := "") (Or.inl (hw _ (List.mem_of_getElem? (i := 16) rfl))) Via.refl e0 P_S_Dialect_H2 (g := (mkF m 36 #[.val (.int p0), .val (.int (p0 &&& (3 : Int32))), .unset, .unset] [])) rfl (hb hby at_36)
        obtain ⟨cq15, kq15, q15a, q15b, q15c⟩ := isOf hZ e13 P_E_wH
        obtain ⟨_, _, ⟨T14, L14, k14, n14⟩, -, X14, ⟨Lc14, hQ14, l14, y14, z14⟩, st14⟩ := X13.virtualBack hx (y := (⟨"com/example/librowmap/librowmap/sql/Dialect", "readsDateTimesThroughUtcCalendar", "()Z"⟩ : MethodName)) (z := (⟨"com/example/librowmap/librowmap/sql/Dialect", "readsDateTimesThroughUtcCalendar", "()Z"⟩ : MethodName)) hown (mvT hZ (hw _ (List.mem_of_getElem? (i := 3) rfl))) (mvT hZ (hw _ (List.mem_of_getElem? (i := 4) rfl))) (notFace_of_selects (args := #[]) (mvT hZ (hw _ (List.mem_of_getElem? (i := 6) rfl)))) (mvT hZ (hw _ (List.mem_of_getElem? (i := 6) rfl))) (mvT hZ (hw _ (List.mem_of_getElem? (i := 5) rfl))) (by decide) (backOf (W := 0) (rm1A l Z a0 hw [] wH wA wT h0 n0 Z0 P_F_wH_Dialect_dateTimeReading P_S_Dialect_DateTimeReading_THROUGH_UTC_CALENDAR ne0) hZ (hw _ (List.mem_of_getElem? (i := 7) rfl)) (hw _ (List.mem_of_getElem? (i := 1) rfl)) (by decide) (by decide)) q15a q15c (g := (mkF m 52 #[.val (.int p0), .val (.int (p0 &&& (3 : Int32))), .val (.ref wH), .val (.int (0 : Int32))] [(.ref wH)])) rfl (by rw [hml]; rfl) (Steps.refl _) (argsL := []) (rest := []) (lenOf pd___Z rfl) rfl (by show 2 * 0 + _ ≤ _; exact Nat.le_of_eq rfl) (hb hby at_52) (fun _ _ => ⟨rfl, e13, (by decide : 0 + 0 ≤ _), (by decide : 0 + 0 ≤ _)⟩)
        dsimp only [Pt.U, Pt.locs, Pt.cells, Pt.slots] at X14 l14 y14 z14 st14 hQ14
        subst l14 y14 z14
        obtain ⟨rfl, N14q, e14⟩ := hQ14
        have N14 := Fr.app N0 N14q
        obtain ⟨fs, hr, hrun, hended, hW, hsame⟩ := X14.leave (v := some (.int (1 : Int32))) (fun h => by rw [Bd.returns] at h; cases h)
        refine ⟨_, _, pre12 _ ?_, hrun, hended, _, _, rfl, ?_, ⟨_, rfl⟩, hW, hsame.mono (by decide) (by decide)⟩
        · show Steps p.tables e below (s₁.setTop (mkF m 33 #[.val (.int p0), .val (.int (p0 &&& (3 : Int32))), .unset, .unset] [(.int (2 : Int32)), (.int (p0 &&& (3 : Int32)))])) _
          refine XS.icmpNo X0.here hx rfl (hb hby at_33) rfl (teq hc33_11).2 ?_
          show Steps p.tables e below (s₁.setTop (mkF m 36 #[.val (.int p0), .val (.int (p0 &&& (3 : Int32))), .unset, .unset] [])) _
          refine st13 _ ?_
          show Steps p.tables e below (T13.setTop (mkF m 39 #[.val (.int p0), .val (.int (p0 &&& (3 : Int32))), .unset, .unset] [(.ref wH)])) _
          refine XS.astoreN X13.here hx rfl (hb hby at_39) rfl rfl (l' := #[.val (.int p0), .val (.int (p0 &&& (3 : Int32))), .val (.ref wH), .unset]) rfl ?_
          show Steps p.tables e below (T13.setTop (mkF m 40 #[.val (.int p0), .val (.int (p0 &&& (3 : Int32))), .val (.ref wH), .unset] [])) _
          refine XS.iconst X13.here hx rfl (hb hby at_40) ?_
          show Steps p.tables e below (T13.setTop (mkF m 41 #[.val (.int p0), .val (.int (p0 &&& (3 : Int32))), .val (.ref wH), .unset] [(.int (0 : Int32))])) _
          refine XS.istoreN X13.here hx rfl (hb hby at_41) rfl (l' := #[.val (.int p0), .val (.int (p0 &&& (3 : Int32))), .val (.ref wH), .val (.int (0 : Int32))]) rfl ?_
          show Steps p.tables e below (T13.setTop (mkF m 42 #[.val (.int p0), .val (.int (p0 &&& (3 : Int32))), .val (.ref wH), .val (.int (0 : Int32))] [])) _
          refine XS.goto X13.here hx rfl (pc0 := 42) (pc' := 51) rfl (hb hby at_42) (by decide) (by decide) ?_
          show Steps p.tables e below (T13.setTop (mkF m 51 #[.val (.int p0), .val (.int (p0 &&& (3 : Int32))), .val (.ref wH), .val (.int (0 : Int32))] [])) _
          refine XS.aloadN X13.here hx rfl (hb hby at_51) rfl rfl ?_
          show Steps p.tables e below (T13.setTop (mkF m 52 #[.val (.int p0), .val (.int (p0 &&& (3 : Int32))), .val (.ref wH), .val (.int (0 : Int32))] [(.ref wH)])) _
          refine st14.trans ?_
          show Steps p.tables e below (T14.setTop (mkF m 55 #[.val (.int p0), .val (.int (p0 &&& (3 : Int32))), .val (.ref wH), .val (.int (0 : Int32))] [(.int (0 : Int32))])) _
          refine XS.iloadN X14.here hx rfl (hb hby at_55) rfl ?_
          show Steps p.tables e below (T14.setTop (mkF m 56 #[.val (.int p0), .val (.int (p0 &&& (3 : Int32))), .val (.ref wH), .val (.int (0 : Int32))] [(.int (0 : Int32)), (.int (0 : Int32))])) _
          refine XS.icmpNo X14.here hx rfl (hb hby at_56) rfl (teq (by decide : (0 : Int32) = (0 : Int32))).2 ?_
          show Steps p.tables e below (T14.setTop (mkF m 59 #[.val (.int p0), .val (.int (p0 &&& (3 : Int32))), .val (.ref wH), .val (.int (0 : Int32))] [])) _
          refine XS.iconst X14.here hx rfl (hb hby at_59) ?_
          show Steps p.tables e below (T14.setTop (mkF m 60 #[.val (.int p0), .val (.int (p0 &&& (3 : Int32))), .val (.ref wH), .val (.int (0 : Int32))] [(.int (1 : Int32))])) _
          refine XS.goto X14.here hx rfl (pc0 := 60) (pc' := 64) rfl (hb hby at_60) (by decide) (by decide) ?_
          show Steps p.tables e below (T14.setTop (mkF m 64 #[.val (.int p0), .val (.int (p0 &&& (3 : Int32))), .val (.ref wH), .val (.int (0 : Int32))] [(.int (1 : Int32))])) _
          exact retN X14 hx (t := .boolean) Bd.returns (by simp) (hb hby at_64) hr
        · show own_Q0 n0 _ T14.heap _
          rw [e14]
          exact ⟨rfl, N14⟩
      · obtain ⟨T16, X16, e16, st16⟩ := getS2 X0 hx hZ hown (host := "") (Or.inl (hw _ (List.mem_of_getElem? (i := 14) rfl))) Via.refl e0 P_S_Dialect_SQL_SERVER (g := (mkF m 45 #[.val (.int p0), .val (.int (p0 &&& (3 : Int32))), .unset, .unset] [])) rfl (hb hby at_45)
        obtain ⟨cq18, kq18, q18a, q18b, q18c⟩ := isOf hZ e16 P_E_wQ
        obtain ⟨_, _, ⟨T17, L17, k17, n17⟩, -, X17, ⟨Lc17, hQ17, l17, y17, z17⟩, st17⟩ := X16.virtualBack hx (y := (⟨"com/example/librowmap/librowmap/sql/Dialect", "readsDateTimesThroughUtcCalendar", "()Z"⟩ : MethodName)) (z := (⟨"com/example/librowmap/librowmap/sql/Dialect", "readsDateTimesThroughUtcCalendar", "()Z"⟩ : MethodName)) hown (mvT hZ (hw _ (List.mem_of_getElem? (i := 3) rfl))) (mvT hZ (hw _ (List.mem_of_getElem? (i := 4) rfl))) (notFace_of_selects (args := #[]) (mvT hZ (hw _ (List.mem_of_getElem? (i := 6) rfl)))) (mvT hZ (hw _ (List.mem_of_getElem? (i := 6) rfl))) (mvT hZ (hw _ (List.mem_of_getElem? (i := 5) rfl))) (by decide) (backOf (W := 0) (rm1A l Z a0 hw [] wQ wA wT h0 n0 Z0 P_F_wQ_Dialect_dateTimeReading P_S_Dialect_DateTimeReading_THROUGH_UTC_CALENDAR ne0) hZ (hw _ (List.mem_of_getElem? (i := 7) rfl)) (hw _ (List.mem_of_getElem? (i := 1) rfl)) (by decide) (by decide)) q18a q18c (g := (mkF m 52 #[.val (.int p0), .val (.int (p0 &&& (3 : Int32))), .val (.ref wQ), .val (.int (0 : Int32))] [(.ref wQ)])) rfl (by rw [hml]; rfl) (Steps.refl _) (argsL := []) (rest := []) (lenOf pd___Z rfl) rfl (by show 2 * 0 + _ ≤ _; exact Nat.le_of_eq rfl) (hb hby at_52) (fun _ _ => ⟨rfl, e16, (by decide : 0 + 0 ≤ _), (by decide : 0 + 0 ≤ _)⟩)
        dsimp only [Pt.U, Pt.locs, Pt.cells, Pt.slots] at X17 l17 y17 z17 st17 hQ17
        subst l17 y17 z17
        obtain ⟨rfl, N17q, e17⟩ := hQ17
        have N17 := Fr.app N0 N17q
        obtain ⟨fs, hr, hrun, hended, hW, hsame⟩ := X17.leave (v := some (.int (1 : Int32))) (fun h => by rw [Bd.returns] at h; cases h)
        refine ⟨_, _, pre12 _ ?_, hrun, hended, _, _, rfl, ?_, ⟨_, rfl⟩, hW, hsame.mono (by decide) (by decide)⟩
        · show Steps p.tables e below (s₁.setTop (mkF m 33 #[.val (.int p0), .val (.int (p0 &&& (3 : Int32))), .unset, .unset] [(.int (2 : Int32)), (.int (p0 &&& (3 : Int32)))])) _
          refine XS.icmpYes X0.here hx rfl (pc0 := 33) (pc' := 45) rfl (hb hby at_33) rfl (feq hc33_11).2 (by decide) (by decide) ?_
          show Steps p.tables e below (s₁.setTop (mkF m 45 #[.val (.int p0), .val (.int (p0 &&& (3 : Int32))), .unset, .unset] [])) _
          refine st16 _ ?_
          show Steps p.tables e below (T16.setTop (mkF m 48 #[.val (.int p0), .val (.int (p0 &&& (3 : Int32))), .unset, .unset] [(.ref wQ)])) _
          refine XS.astoreN X16.here hx rfl (hb hby at_48) rfl rfl (l' := #[.val (.int p0), .val (.int (p0 &&& (3 : Int32))), .val (.ref wQ), .unset]) rfl ?_
          show Steps p.tables e below (T16.setTop (mkF m 49 #[.val (.int p0), .val (.int (p0 &&& (3 : Int32))), .val (.ref wQ), .unset] [])) _
          refine XS.iconst X16.here hx rfl (hb hby at_49) ?_
          show Steps p.tables e below (T16.setTop (mkF m 50 #[.val (.int p0), .val (.int (p0 &&& (3 : Int32))), .val (.ref wQ), .unset] [(.int (0 : Int32))])) _
          refine XS.istoreN X16.here hx rfl (hb hby at_50) rfl (l' := #[.val (.int p0), .val (.int (p0 &&& (3 : Int32))), .val (.ref wQ), .val (.int (0 : Int32))]) rfl ?_
          show Steps p.tables e below (T16.setTop (mkF m 51 #[.val (.int p0), .val (.int (p0 &&& (3 : Int32))), .val (.ref wQ), .val (.int (0 : Int32))] [])) _
          refine XS.aloadN X16.here hx rfl (hb hby at_51) rfl rfl ?_
          show Steps p.tables e below (T16.setTop (mkF m 52 #[.val (.int p0), .val (.int (p0 &&& (3 : Int32))), .val (.ref wQ), .val (.int (0 : Int32))] [(.ref wQ)])) _
          refine st17.trans ?_
          show Steps p.tables e below (T17.setTop (mkF m 55 #[.val (.int p0), .val (.int (p0 &&& (3 : Int32))), .val (.ref wQ), .val (.int (0 : Int32))] [(.int (0 : Int32))])) _
          refine XS.iloadN X17.here hx rfl (hb hby at_55) rfl ?_
          show Steps p.tables e below (T17.setTop (mkF m 56 #[.val (.int p0), .val (.int (p0 &&& (3 : Int32))), .val (.ref wQ), .val (.int (0 : Int32))] [(.int (0 : Int32)), (.int (0 : Int32))])) _
          refine XS.icmpNo X17.here hx rfl (hb hby at_56) rfl (teq (by decide : (0 : Int32) = (0 : Int32))).2 ?_
          show Steps p.tables e below (T17.setTop (mkF m 59 #[.val (.int p0), .val (.int (p0 &&& (3 : Int32))), .val (.ref wQ), .val (.int (0 : Int32))] [])) _
          refine XS.iconst X17.here hx rfl (hb hby at_59) ?_
          show Steps p.tables e below (T17.setTop (mkF m 60 #[.val (.int p0), .val (.int (p0 &&& (3 : Int32))), .val (.ref wQ), .val (.int (0 : Int32))] [(.int (1 : Int32))])) _
          refine XS.goto X17.here hx rfl (pc0 := 60) (pc' := 64) rfl (hb hby at_60) (by decide) (by decide) ?_
          show Steps p.tables e below (T17.setTop (mkF m 64 #[.val (.int p0), .val (.int (p0 &&& (3 : Int32))), .val (.ref wQ), .val (.int (0 : Int32))] [(.int (1 : Int32))])) _
          exact retN X17 hx (t := .boolean) Bd.returns (by simp) (hb hby at_64) hr
        · show own_Q0 n0 _ T17.heap _
          rw [e17]
          exact ⟨rfl, N17⟩

set_option maxRecDepth 65536 in
set_option maxHeartbeats 40000000 in
theorem comes_1 {Post : Tables → Env → Array Value → State → Outcome → State → Prop} (hpost : ∀ tb e args s v u, (limb_1_1.after args s (.returned v) u = true ∧ limb_1_2.after args s (.returned v) u = true ∧ True) → FrameEnd s (.returned v) u (Jvm.fieldLocs frame_1_writes args s ++ Jvm.arrayLocs frame_1_arrays args s ++ Jvm.staticLocs frame_1_statics s) 0 0 → Post tb e args s (.returned v) u) :
    ArmFor flags0 classFile x code maxLocals ret World_1 tables_1 room_1 Calls_1 rest_1 Pre_1 Post := by
  intro l hfl _ _ p e ha hc hk s m args below hf hA hF happ hP
  obtain ⟨hcalls, hrest, hpre⟩ := hP
  obtain ⟨-, -, -, hnamed, -, -, -, hat⟩ := (Spec.applies_iff hf).mp happ
  obtain ⟨hg, hn⟩ := and_e (Cond.before_iff.mp (show (Jvm.Cond.and given_1 narrow_1).before args s = true from hpre))
  obtain ⟨g0, g1⟩ := and_e hg
  obtain ⟨k0, kr1⟩ := and_e hn
  obtain ⟨k1, kr2⟩ := and_e kr1
  obtain ⟨k2, kr3⟩ := and_e kr2
  obtain ⟨k3, kr4⟩ := and_e kr3
  obtain ⟨k4, kr5⟩ := and_e kr4
  obtain ⟨k5, kr6⟩ := and_e kr5
  obtain ⟨k6, kr7⟩ := and_e kr6
  obtain ⟨k7, kr8⟩ := and_e kr7
  obtain ⟨k8, kr9⟩ := and_e kr8
  obtain ⟨k9, kr10⟩ := and_e kr9
  obtain ⟨k10, k11⟩ := and_e kr10
  obtain ⟨w0, rfl⟩ : ∃ w0 : Value, args = #[w0] := by
    have hs : args.size = 1 := by simpa [Cond.value, given_1] using g0
    obtain ⟨L⟩ := args
    match L, hs with
    | [w0], _ => exact ⟨w0, rfl⟩
  have hw := fun d (hd : d ∈ tables_1) => atoms_spec (ws := Jvm.Cond.code x code maxLocals ret :: tables_1) hat d (List.mem_cons_of_mem _ hd)
  have hfit : Fit s := fun {y c} hc i hi => by
    obtain ⟨ha, rfl⟩ := Array.getElem?_eq_some_iff.mp hc
    have q := List.all_eq_true.mp ((Array.all_eq_true_iff_forall_mem.mp hF) _ (Array.getElem_mem ha)) i (List.mem_range.mpr hi)
    simpa [Array.getElem?_eq_getElem hi] using q
  obtain ⟨i0, ei0⟩ := is_v g1
  obtain rfl : w0 = (.int i0) := Option.some.inj ei0
  obtain ⟨wP, e_wP⟩ := exa_v k0
  obtain ⟨wM, e_wM⟩ := exa_v k10
  obtain ⟨wH, e_wH⟩ := exa_v k8
  obtain ⟨wQ, e_wQ⟩ := exa_v k6
  obtain ⟨wA, e_wA⟩ := exa_v k1
  obtain ⟨wT, e_wT⟩ := exa_v k3
  have ne0 : wA ≠ wT := Fld.ne (own_fld e_wA (own_eqI k4)) (own_fld e_wT (own_eqI k5)) (by decide)
  obtain ⟨n, o, h1, h2, h3, _, L, rfl, ⟨rfl, N⟩, hq⟩ := rm0 l s _ hw tables_1 i0 wA wT wP wM wH wQ s.heap s.heap.size (Nat.le_refl _) (Sta.start e_wT (Or.inr ⟨(hw _ (List.mem_of_getElem? (i := 10) rfl)), (hw _ (List.mem_of_getElem? (i := 13) rfl))⟩)) (Sta.start e_wP (Or.inr ⟨(hw _ (List.mem_of_getElem? (i := 1) rfl)), (hw _ (List.mem_of_getElem? (i := 2) rfl))⟩)) (Exa.start e_wP k0) (own_fld e_wP (own_eqR k2 e_wA)) (Sta.start e_wM (Or.inr ⟨(hw _ (List.mem_of_getElem? (i := 1) rfl)), (hw _ (List.mem_of_getElem? (i := 19) rfl))⟩)) (Exa.start e_wM k10) (own_fld e_wM (own_eqR k11 e_wT)) (Sta.start e_wH (Or.inr ⟨(hw _ (List.mem_of_getElem? (i := 1) rfl)), (hw _ (List.mem_of_getElem? (i := 17) rfl))⟩)) (Exa.start e_wH k8) (own_fld e_wH (own_eqR k9 e_wA)) (Sta.start e_wQ (Or.inr ⟨(hw _ (List.mem_of_getElem? (i := 1) rfl)), (hw _ (List.mem_of_getElem? (i := 15) rfl))⟩)) (Exa.start e_wQ k6) (own_fld e_wQ (own_eqR k7 e_wA)) ne0 p e ha hc hk s m _ below hf ((Spec.applies_iff_loose hf).mp happ).1 ⟨rfl, State.Warmed39.refl s, rfl⟩ trivial
  refine ⟨n, _, h1, h2, h3, hpost _ _ _ _ _ _ ⟨Cond.after_iff.mpr rfl, Cond.after_iff.mpr (eq_i res_at (Term.int_eval (1)) rfl), trivial⟩ ⟨hq.1, hq.2.1, (hq.2.2.sift fun y hy => Or.inr (N y hy)).mono (by decide) (by decide)⟩⟩
theorem main_1_1 : Claimed_1_1 := comes_1 fun _ _ _ _ _ _ h hF => ⟨h.1, hF⟩
theorem main_1_2 : Claimed_1_2 := comes_1 fun _ _ _ _ _ _ h hF => ⟨h.2.1, hF⟩
end Jvm.Pilot.@@N@@
namespace Jvm.Pilot.@@N@@
open Jvm Jvm.ClassFile Sem Op Lib Jvm.Free Jvm.Stand Jvm.Pilot.@@N@@.Jvm.D
/-! MADE BY PROGRAM (witnessworld.py) out of the Statement's table words and the real class files: 13 classes; the members and pool entries that the words name. The judged class is class 1, her method 1. -/
namespace start1
open Jvm.ClassFile
def u (s : String) : CpInfo := .utf8 (stringToUtf16 s)
/-- a pool by its gaps: so many unusable entries, then the entry; so many at the end -/
def gap : Nat → List CpInfo → List CpInfo
  | 0, r => r
  | n + 1, r => .unusable :: gap n r
def poolList (es : List (Nat × CpInfo)) (last : Nat) : List CpInfo := es.foldr (fun e r => gap e.1 (e.2 :: r)) (gap last [])
def pool (es : List (Nat × CpInfo)) (last : Nat) : Array CpInfo := ⟨poolList es last⟩
def fileOf (pool : Array CpInfo) (this : Nat) (attrs : Array Attribute := #[]) (ms : Array MethodInfo := #[]) (fl : Nat := 33) (sup : Nat := 0) (ifs : Array Nat := #[]) (fds : Array FieldInfo := #[]) : ClassFile where
  minorVersion := 0
  majorVersion := 65
  constantPool := pool
  accessFlags := fl
  thisClass := this
  superClass := sup
  interfaces := ifs
  fields := fds
  methods := ms
  attributes := attrs
def plain (name : String) (sup : Option ClassId) : Class where
  name := name
  kind := .ordinary
  loader := none
  accessFlags := 33
  super := sup
  interfaces := #[]
  cf := none
  fields := #[]
  methods := #[]
  instanceTypes := #[]
  staticTypes := #[]
  resolved := #[]
  callSites := []
  init := .initialized
  statics := none
  mirror := none

def pool0 : Array CpInfo := pool [(5, u "<init>"), (0, u "()V"), (1, .class_ 10), (1, u "java/lang/Object")] 113

def k0m0 : Method := { name := "<init>", desc := "()V", sig := { parameters := [], returnType := none }, accessFlags := 1, code := none }
/-- java/lang/Object -/
def k0 : Class := { plain "java/lang/Object" none with
  accessFlags := 33
  interfaces := #[]
  cf := some (fileOf pool0 8 #[] #[{ accessFlags := 1, nameIndex := 5, descriptorIndex := 6, attributes := #[] }] 33 0 #[] #[])
  fields := #[]
  methods := #[k0m0]
  instanceTypes := #[]
  staticTypes := #[]
  resolved := Array.replicate 124 none
  statics := none }

def pool1 : Array CpInfo := pool [(2, .class_ 4), (1, u "java/lang/Object"), (0, u "<init>"), (0, u "()V"), (0, .fieldref 8 9), (0, .class_ 10), (0, .nameAndType 11 12), (0, u "com/example/librowmap/librowmap/sql/Dialect"), (0, u "POSTGRESQL"), (0, u "Lcom/example/librowmap/librowmap/sql/Dialect;"), (0, .fieldref 8 14), (0, .nameAndType 15 12), (0, u "MARIADB"), (0, .fieldref 8 17), (0, .nameAndType 18 12), (0, u "H2"), (0, .fieldref 8 20), (0, .nameAndType 21 12), (0, u "SQL_SERVER"), (0, .methodref 8 23), (0, .nameAndType 24 25), (0, u "readsDateTimesThroughUtcCalendar"), (0, u "()Z"), (0, .class_ 27), (0, u "com/example/librowmap/librowmap/sql/DialectReadsDateTimesThroughUtcCalendarPinLaw"), (2, u "law"), (0, u "(I)Z")] 3

def k1m0 : Method := { name := "<init>", desc := "()V", sig := { parameters := [], returnType := none }, accessFlags := 1, code := none }
def k1c1 : Code := { maxStack := 2, maxLocals := 4, code := code, exceptionTable := #[], attributes := #[] }
def k1m1 : Method := { name := "law", desc := "(I)Z", sig := { parameters := [.int], returnType := some .boolean }, accessFlags := 9, code := some k1c1 }
/-- com/example/librowmap/librowmap/sql/DialectReadsDateTimesThroughUtcCalendarPinLaw -/
def k1 : Class := { plain "com/example/librowmap/librowmap/sql/DialectReadsDateTimesThroughUtcCalendarPinLaw" (some 0) with
  accessFlags := 49
  interfaces := #[]
  cf := some (fileOf pool1 26 #[] #[{ accessFlags := 1, nameIndex := 5, descriptorIndex := 6, attributes := #[] }, { accessFlags := 9, nameIndex := 30, descriptorIndex := 31, attributes := #[] }] 49 2 #[] #[])
  fields := #[]
  methods := #[k1m0, k1m1]
  instanceTypes := #[]
  staticTypes := #[]
  resolved := Array.replicate 35 none
  statics := none }

def pool2 : Array CpInfo := pool [(1, .class_ 2), (0, u "java/lang/constant/Constable"), (0, .class_ 4), (0, u "java/lang/Object")] 6

/-- java/lang/constant/Constable -/
def k2 : Class := { plain "java/lang/constant/Constable" (some 0) with
  accessFlags := 1537
  interfaces := #[]
  cf := some (fileOf pool2 1 #[] #[] 1537 3 #[] #[])
  fields := #[]
  methods := #[]
  instanceTypes := #[]
  staticTypes := #[]
  resolved := Array.replicate 11 none
  statics := none }

def pool3 : Array CpInfo := pool [(1, .class_ 2), (0, u "java/lang/Comparable"), (0, .class_ 4), (0, u "java/lang/Object")] 7

/-- java/lang/Comparable -/
def k3 : Class := { plain "java/lang/Comparable" (some 0) with
  accessFlags := 1537
  interfaces := #[]
  cf := some (fileOf pool3 1 #[] #[] 1537 3 #[] #[])
  fields := #[]
  methods := #[]
  instanceTypes := #[]
  staticTypes := #[]
  resolved := Array.replicate 12 none
  statics := none }

def pool4 : Array CpInfo := pool [(1, .class_ 2), (0, u "java/io/Serializable"), (0, .class_ 4), (0, u "java/lang/Object")] 2

/-- java/io/Serializable -/
def k4 : Class := { plain "java/io/Serializable" (some 0) with
  accessFlags := 1537
  interfaces := #[]
  cf := some (fileOf pool4 1 #[] #[] 1537 3 #[] #[])
  fields := #[]
  methods := #[]
  instanceTypes := #[]
  staticTypes := #[]
  resolved := Array.replicate 7 none
  statics := none }

def pool5 : Array CpInfo := pool [(2, .class_ 4), (1, u "java/lang/Enum"), (0, u "name"), (0, u "Ljava/lang/String;"), (2, u "ordinal"), (0, u "I"), (1, .class_ 14), (1, u "java/lang/Object"), (4, u "hash"), (86, .class_ 108), (1, u "java/lang/Enum$EnumDesc"), (2, .class_ 112), (0, u "java/lang/constant/Constable"), (0, .class_ 114), (0, u "java/lang/Comparable"), (0, .class_ 116), (0, u "java/io/Serializable")] 87

/-- java/lang/Enum -/
def k5 : Class := { plain "java/lang/Enum" (some 0) with
  accessFlags := 1057
  interfaces := #[2, 3, 4]
  cf := some (fileOf pool5 2 #[.nestMembers #[106]] #[] 1057 12 #[111, 113, 115] #[{ accessFlags := 18, nameIndex := 5, descriptorIndex := 6, attributes := #[] }, { accessFlags := 18, nameIndex := 9, descriptorIndex := 10, attributes := #[] }, { accessFlags := 2, nameIndex := 19, descriptorIndex := 10, attributes := #[] }])
  fields := #[{ name := "name", type := (.object "java/lang/String"), accessFlags := 18, slot := 0, constantValue := 0 }, { name := "ordinal", type := .int, accessFlags := 18, slot := 1, constantValue := 0 }, { name := "hash", type := .int, accessFlags := 2, slot := 2, constantValue := 0 }]
  methods := #[]
  instanceTypes := #[(.object "java/lang/String"), .int, .int]
  staticTypes := #[]
  resolved := Array.replicate 204 none
  statics := none }

def pool6 : Array CpInfo := pool [(1, .class_ 2), (0, u "com/example/librowmap/librowmap/sql/Dialect"), (2, u "POSTGRESQL"), (0, u "Lcom/example/librowmap/librowmap/sql/Dialect;"), (2, u "MARIADB"), (2, u "H2"), (2, u "SQL_SERVER"), (2, u "$VALUES"), (0, u "[Lcom/example/librowmap/librowmap/sql/Dialect;"), (6, .class_ 28), (1, u "java/lang/Enum"), (8, u "productNames"), (0, u "Ljava/util/List;"), (2, u "openQuote"), (0, u "C"), (2, u "closeQuote"), (2, u "paging"), (0, u "Lcom/example/librowmap/librowmap/sql/Dialect$Paging;"), (2, u "rowOfDefaults"), (0, u "Ljava/lang/String;"), (2, u "sx"), (0, u "Ljava/util/Set;"), (2, u "sxSettingsQuery"), (2, u "rulesReversed"), (0, u "Ljava/util/Map;"), (2, u "nullTypeNames"), (2, u "nameBinding"), (0, u "Lcom/example/librowmap/librowmap/sql/Dialect$NameBinding;"), (2, u "textType"), (2, u "instantBinding"), (0, u "Lcom/example/librowmap/librowmap/sql/Dialect$InstantBinding;"), (0, .fieldref 1 80), (0, .nameAndType 81 82), (0, u "dateTimeReading"), (0, u "Lcom/example/librowmap/librowmap/sql/Dialect$DateTimeReading;"), (2, u "afterRefusal"), (0, u "Lcom/example/librowmap/librowmap/sql/Dialect$AfterRefusal;"), (2, u "textHeld"), (0, u "Lcom/example/librowmap/librowmap/sql/Dialect$TextHeld;"), (22, u "()Z"), (96, .fieldref 211 212), (0, .class_ 213), (0, .nameAndType 214 82), (0, u "com/example/librowmap/librowmap/sql/Dialect$DateTimeReading"), (0, u "THROUGH_UTC_CALENDAR"), (1, .class_ 218), (1, u "com/example/librowmap/librowmap/sql/Dialect$AfterRefusal"), (5, .class_ 226), (1, u "com/example/librowmap/librowmap/sql/Dialect$InstantBinding"), (23, u "UTC_LITERAL"), (0, u "Ljava/time/format/DateTimeFormatter;"), (22, .class_ 276), (1, u "com/example/librowmap/librowmap/sql/Dialect$TextHeld"), (7, u "FIRST_DATE_TIME"), (0, u "Ljava/time/Instant;"), (6, u "LAST_DATE_TIME"), (59, .class_ 354), (1, u "com/example/librowmap/librowmap/sql/Dialect$Paging"), (48, .class_ 405), (1, u "com/example/librowmap/librowmap/sql/Dialect$NameBinding"), (141, u "TIMESTAMPTZ"), (27, u "readsDateTimesThroughUtcCalendar")] 40

def k6c0 : Code := { maxStack := 2, maxLocals := 1, code := prog_92_method_13_code, exceptionTable := #[], attributes := #[] }
def k6m0 : Method := { name := "readsDateTimesThroughUtcCalendar", desc := "()Z", sig := { parameters := [], returnType := some .boolean }, accessFlags := 1, code := some k6c0 }
/-- com/example/librowmap/librowmap/sql/Dialect -/
def k6 : Class := { plain "com/example/librowmap/librowmap/sql/Dialect" (some 5) with
  accessFlags := 16433
  interfaces := #[]
  cf := some (fileOf pool6 1 #[.nestMembers #[274, 216, 211, 224, 403, 352]] #[{ accessFlags := 1, nameIndex := 575, descriptorIndex := 113, attributes := #[] }] 16433 26 #[] #[{ accessFlags := 16409, nameIndex := 5, descriptorIndex := 6, attributes := #[] }, { accessFlags := 16409, nameIndex := 9, descriptorIndex := 6, attributes := #[] }, { accessFlags := 16409, nameIndex := 12, descriptorIndex := 6, attributes := #[] }, { accessFlags := 16409, nameIndex := 15, descriptorIndex := 6, attributes := #[] }, { accessFlags := 26, nameIndex := 547, descriptorIndex := 53, attributes := #[] }, { accessFlags := 26, nameIndex := 250, descriptorIndex := 251, attributes := #[] }, { accessFlags := 26, nameIndex := 284, descriptorIndex := 285, attributes := #[] }, { accessFlags := 26, nameIndex := 292, descriptorIndex := 285, attributes := #[] }, { accessFlags := 18, nameIndex := 37, descriptorIndex := 38, attributes := #[] }, { accessFlags := 18, nameIndex := 41, descriptorIndex := 42, attributes := #[] }, { accessFlags := 18, nameIndex := 45, descriptorIndex := 42, attributes := #[] }, { accessFlags := 18, nameIndex := 48, descriptorIndex := 49, attributes := #[] }, { accessFlags := 18, nameIndex := 52, descriptorIndex := 53, attributes := #[] }, { accessFlags := 18, nameIndex := 56, descriptorIndex := 57, attributes := #[] }, { accessFlags := 18, nameIndex := 60, descriptorIndex := 53, attributes := #[] }, { accessFlags := 18, nameIndex := 63, descriptorIndex := 64, attributes := #[] }, { accessFlags := 18, nameIndex := 67, descriptorIndex := 64, attributes := #[] }, { accessFlags := 18, nameIndex := 70, descriptorIndex := 71, attributes := #[] }, { accessFlags := 18, nameIndex := 74, descriptorIndex := 53, attributes := #[] }, { accessFlags := 18, nameIndex := 77, descriptorIndex := 78, attributes := #[] }, { accessFlags := 18, nameIndex := 81, descriptorIndex := 82, attributes := #[] }, { accessFlags := 18, nameIndex := 85, descriptorIndex := 86, attributes := #[] }, { accessFlags := 18, nameIndex := 89, descriptorIndex := 90, attributes := #[] }, { accessFlags := 4122, nameIndex := 18, descriptorIndex := 19, attributes := #[] }])
  fields := #[{ name := "POSTGRESQL", type := (.object "com/example/librowmap/librowmap/sql/Dialect"), accessFlags := 16409, slot := 0, constantValue := 0 }, { name := "MARIADB", type := (.object "com/example/librowmap/librowmap/sql/Dialect"), accessFlags := 16409, slot := 1, constantValue := 0 }, { name := "H2", type := (.object "com/example/librowmap/librowmap/sql/Dialect"), accessFlags := 16409, slot := 2, constantValue := 0 }, { name := "SQL_SERVER", type := (.object "com/example/librowmap/librowmap/sql/Dialect"), accessFlags := 16409, slot := 3, constantValue := 0 }, { name := "TIMESTAMPTZ", type := (.object "java/lang/String"), accessFlags := 26, slot := 4, constantValue := 0 }, { name := "UTC_LITERAL", type := (.object "java/time/format/DateTimeFormatter"), accessFlags := 26, slot := 5, constantValue := 0 }, { name := "FIRST_DATE_TIME", type := (.object "java/time/Instant"), accessFlags := 26, slot := 6, constantValue := 0 }, { name := "LAST_DATE_TIME", type := (.object "java/time/Instant"), accessFlags := 26, slot := 7, constantValue := 0 }, { name := "productNames", type := (.object "java/util/List"), accessFlags := 18, slot := 3, constantValue := 0 }, { name := "openQuote", type := .char, accessFlags := 18, slot := 4, constantValue := 0 }, { name := "closeQuote", type := .char, accessFlags := 18, slot := 5, constantValue := 0 }, { name := "paging", type := (.object "com/example/librowmap/librowmap/sql/Dialect$Paging"), accessFlags := 18, slot := 6, constantValue := 0 }, { name := "rowOfDefaults", type := (.object "java/lang/String"), accessFlags := 18, slot := 7, constantValue := 0 }, { name := "sx", type := (.object "java/util/Set"), accessFlags := 18, slot := 8, constantValue := 0 }, { name := "sxSettingsQuery", type := (.object "java/lang/String"), accessFlags := 18, slot := 9, constantValue := 0 }, { name := "rulesReversed", type := (.object "java/util/Map"), accessFlags := 18, slot := 10, constantValue := 0 }, { name := "nullTypeNames", type := (.object "java/util/Map"), accessFlags := 18, slot := 11, constantValue := 0 }, { name := "nameBinding", type := (.object "com/example/librowmap/librowmap/sql/Dialect$NameBinding"), accessFlags := 18, slot := 12, constantValue := 0 }, { name := "textType", type := (.object "java/lang/String"), accessFlags := 18, slot := 13, constantValue := 0 }, { name := "instantBinding", type := (.object "com/example/librowmap/librowmap/sql/Dialect$InstantBinding"), accessFlags := 18, slot := 14, constantValue := 0 }, { name := "dateTimeReading", type := (.object "com/example/librowmap/librowmap/sql/Dialect$DateTimeReading"), accessFlags := 18, slot := 15, constantValue := 0 }, { name := "afterRefusal", type := (.object "com/example/librowmap/librowmap/sql/Dialect$AfterRefusal"), accessFlags := 18, slot := 16, constantValue := 0 }, { name := "textHeld", type := (.object "com/example/librowmap/librowmap/sql/Dialect$TextHeld"), accessFlags := 18, slot := 17, constantValue := 0 }, { name := "$VALUES", type := (.array (.object "com/example/librowmap/librowmap/sql/Dialect")), accessFlags := 4122, slot := 8, constantValue := 0 }]
  methods := #[k6m0]
  instanceTypes := #[(.object "java/lang/String"), .int, .int, (.object "java/util/List"), .char, .char, (.object "com/example/librowmap/librowmap/sql/Dialect$Paging"), (.object "java/lang/String"), (.object "java/util/Set"), (.object "java/lang/String"), (.object "java/util/Map"), (.object "java/util/Map"), (.object "com/example/librowmap/librowmap/sql/Dialect$NameBinding"), (.object "java/lang/String"), (.object "com/example/librowmap/librowmap/sql/Dialect$InstantBinding"), (.object "com/example/librowmap/librowmap/sql/Dialect$DateTimeReading"), (.object "com/example/librowmap/librowmap/sql/Dialect$AfterRefusal"), (.object "com/example/librowmap/librowmap/sql/Dialect$TextHeld")]
  staticTypes := #[(.object "com/example/librowmap/librowmap/sql/Dialect"), (.object "com/example/librowmap/librowmap/sql/Dialect"), (.object "com/example/librowmap/librowmap/sql/Dialect"), (.object "com/example/librowmap/librowmap/sql/Dialect"), (.object "java/lang/String"), (.object "java/time/format/DateTimeFormatter"), (.object "java/time/Instant"), (.object "java/time/Instant"), (.array (.object "com/example/librowmap/librowmap/sql/Dialect"))]
  resolved := Array.replicate 616 none
  statics := some 0 }

def pool7 : Array CpInfo := pool [(1, .class_ 2), (0, u "com/example/librowmap/librowmap/sql/Dialect$DateTimeReading"), (2, u "AS_LOCAL_DATE_TIME"), (0, u "Lcom/example/librowmap/librowmap/sql/Dialect$DateTimeReading;"), (2, u "THROUGH_UTC_CALENDAR"), (2, u "$VALUES"), (0, u "[Lcom/example/librowmap/librowmap/sql/Dialect$DateTimeReading;"), (6, .class_ 22), (1, u "java/lang/Enum"), (25, .class_ 49), (0, u "com/example/librowmap/librowmap/sql/Dialect")] 2

/-- com/example/librowmap/librowmap/sql/Dialect$DateTimeReading -/
def k7 : Class := { plain "com/example/librowmap/librowmap/sql/Dialect$DateTimeReading" (some 5) with
  accessFlags := 16432
  interfaces := #[]
  cf := some (fileOf pool7 1 #[.nestHost 48] #[] 16432 20 #[] #[{ accessFlags := 16409, nameIndex := 5, descriptorIndex := 6, attributes := #[] }, { accessFlags := 16409, nameIndex := 9, descriptorIndex := 6, attributes := #[] }, { accessFlags := 4122, nameIndex := 12, descriptorIndex := 13, attributes := #[] }])
  fields := #[{ name := "AS_LOCAL_DATE_TIME", type := (.object "com/example/librowmap/librowmap/sql/Dialect$DateTimeReading"), accessFlags := 16409, slot := 0, constantValue := 0 }, { name := "THROUGH_UTC_CALENDAR", type := (.object "com/example/librowmap/librowmap/sql/Dialect$DateTimeReading"), accessFlags := 16409, slot := 1, constantValue := 0 }, { name := "$VALUES", type := (.array (.object "com/example/librowmap/librowmap/sql/Dialect$DateTimeReading")), accessFlags := 4122, slot := 2, constantValue := 0 }]
  methods := #[]
  instanceTypes := #[(.object "java/lang/String"), .int, .int]
  staticTypes := #[(.object "com/example/librowmap/librowmap/sql/Dialect$DateTimeReading"), (.object "com/example/librowmap/librowmap/sql/Dialect$DateTimeReading"), (.array (.object "com/example/librowmap/librowmap/sql/Dialect$DateTimeReading"))]
  resolved := Array.replicate 52 none
  statics := some 1 }

def pool8 : Array CpInfo := pool [(1, u "java/lang/Cloneable"), (0, .class_ 1), (0, u "java/lang/Object"), (0, .class_ 3)] 3

/-- java/lang/Cloneable -/
def k8 : Class := { plain "java/lang/Cloneable" (some 0) with
  accessFlags := 1537
  interfaces := #[]
  cf := some (fileOf pool8 2 #[] #[] 1537 4 #[] #[])
  fields := #[]
  methods := #[]
  instanceTypes := #[]
  staticTypes := #[]
  resolved := Array.replicate 8 none
  statics := none }

/-- the primitive byte -/
def k9 : Class := { plain "byte" none with kind := .primitive 'B', accessFlags := 0x411 }
/-- [B -/
def k10 : Class := { plain "[B" (some 0) with kind := .array 9 .byte, interfaces := #[8, 4], accessFlags := 1041 }

/-- the primitive int -/
def k11 : Class := { plain "int" none with kind := .primitive 'I', accessFlags := 0x411 }
/-- [I -/
def k12 : Class := { plain "[I" (some 0) with kind := .array 11 .int, interfaces := #[8, 4], accessFlags := 1041 }

def heap : Heap := #[{ cls := 6, slots := #[.ref 4, .ref 5, .ref 6, .ref 7, .null, .null, .null, .null, .null], vm := .statics 6 },
  { cls := 7, slots := #[.ref 2, .ref 3, .null], vm := .statics 7 },
  { cls := 7, slots := #[.null, .int 0, .int 0], vm := .none },
  { cls := 7, slots := #[.null, .int 1, .int 0], vm := .none },
  { cls := 6, slots := #[.null, .int 0, .int 0, .null, .int 0, .int 0, .null, .null, .null, .null, .null, .null, .null, .null, .null, .ref 2, .null, .null], vm := .none },
  { cls := 6, slots := #[.null, .int 1, .int 0, .null, .int 0, .int 0, .null, .null, .null, .null, .null, .null, .null, .null, .null, .ref 3, .null, .null], vm := .none },
  { cls := 6, slots := #[.null, .int 2, .int 0, .null, .int 0, .int 0, .null, .null, .null, .null, .null, .null, .null, .null, .null, .ref 2, .null, .null], vm := .none },
  { cls := 6, slots := #[.null, .int 3, .int 0, .null, .int 0, .int 0, .null, .null, .null, .null, .null, .null, .null, .null, .null, .ref 2, .null, .null], vm := .none }]
def classes : Array Class := #[k0, k1, k2, k3, k4, k5, k6, k7, k8, k9, k10, k11, k12]
def interned : List (Array UInt16 × Addr) := []
def slotsUsed : Nat := 90
def theMethod : MethodId := ⟨1, 1⟩
def args0 : Array Value := #[.int 1]
def aboutOver (below : List Frame) : State where
  vm := { classes := classes, interned := interned.toArray }
  heap := heap
  slotsUsed := slotsUsed
  threads := #[{ frames := .invoking theMethod args0 :: below }]
def below0 : List Frame := [.native { method := ⟨0, 0⟩, args := #[] }]
def about1 : State := aboutOver below0
def p0 : Program := .bare "" "" ""
def e0 : Env := launch0.env 0 0 0
theorem w_frames : about1.frames = Frame.invoking theMethod args0 :: below0 := rfl
set_option maxRecDepth 65536 in
theorem w_args : argsFit about1.vm theMethod args0 = true := by decide +kernel
set_option maxRecDepth 65536 in
theorem w_heap : heapFits about1 = true := by decide +kernel
set_option maxRecDepth 65536 in
theorem w_runnable : about1.curStatus? = some .runnable := by decide +kernel
set_option maxRecDepth 65536 in
theorem w_alone : about1.alone = true := by decide +kernel
set_option maxRecDepth 65536 in
theorem w_named : about1.methodNamed? x = some theMethod := by decide +kernel
set_option maxRecDepth 65536 in
theorem w_hears : about1.hears theMethod below0 = true := by decide +kernel
set_option maxRecDepth 65536 in
theorem w_ripe : about1.ripe theMethod args0 below0 = true := by decide +kernel
theorem w_running : about1.status = .running := rfl
set_option maxRecDepth 65536 in
theorem w_room : about1.hasRoom e0.platform room_1 = true :=
  launch0.hasRoom_least _ room_1 (by decide +kernel) (by decide +kernel) (by decide +kernel) (by decide +kernel) (by decide +kernel) (by decide +kernel)
theorem allAtoms_all (ts : List Jvm.Cond) (a : Array Jvm.Value) (st : Jvm.State) : (allAtoms ts).before a st = ts.all (fun c => c.before a st) := by
  induction ts with
  | nil => rfl
  | cons c t ih =>
    show (Jvm.Cond.and c (allAtoms t)).before a st = _
    rw [Jvm.Cond.before_and, ih, List.all_cons]
def words1 : List Jvm.Cond := Jvm.Cond.code x code maxLocals ret :: tables_1
/-- a 'code' word, met by the world's own term for the bytes: nothing is compared byte by byte -/
theorem code_word {y : MethodName} {bytes : ByteArray} {mx : Nat} {rt : Option FieldType} {a : Array Value} {s : State} {m : MethodId} {meth : Method} {c : Code} (h1 : s.methodNamed? y = some m) (h2 : s.vm.method? m = some meth) (h3 : meth.code = some c) (h4 : c.code = bytes)
    (h5 : (c.maxLocals == mx && c.exceptionTable.isEmpty && decide (c.maxStack ≤ mostOperands) && decide (meth.sig.returnType = rt) && !meth.locks && decide (parseMethodDescriptor y.desc = some meth.sig)) = true) : (Jvm.Cond.code y bytes mx rt).before a s = true := by
  simp only [Bool.and_eq_true, beq_iff_eq, Bool.not_eq_true', decide_eq_true_eq] at h5
  obtain ⟨⟨⟨⟨⟨g1, g2⟩, g3⟩, g4⟩, g5⟩, g6⟩ := h5
  simp [Cond.before, Cond.holds, Cond.value, h1, h2, h3, h4, g1, g2, g3, g4, g5, g6]
def isCode : Jvm.Cond → Bool
  | .code _ _ _ _ => true
  | _ => false
theorem all_split {L : List Jvm.Cond} {P : Jvm.Cond → Bool} (h1 : L.all (fun c => isCode c || P c) = true) (h2 : ∀ c ∈ L.filter isCode, P c = true) : L.all P = true := by
  refine List.all_eq_true.mpr fun c hc => ?_
  have h := List.all_eq_true.mp h1 c hc
  rcases Bool.eq_false_or_eq_true (isCode c) with hi | hi
  · exact h2 c (List.mem_filter.mpr ⟨hc, hi⟩)
  · simpa [hi] using h
set_option maxRecDepth 65536 in
theorem w_c0 : (Jvm.Cond.code x code maxLocals ret).before args0 about1 = true := code_word (m := ⟨1, 1⟩) (meth := k1m1) (c := k1c1) (by decide +kernel) rfl rfl rfl (by decide +kernel)
set_option maxRecDepth 65536 in
theorem w_c1 : (Jvm.Cond.code ({ cls := "com/example/librowmap/librowmap/sql/Dialect", name := "readsDateTimesThroughUtcCalendar", desc := "()Z" } : Jvm.MethodName) prog_92_method_13_code (1 : Nat) (Option.some Jvm.ClassFile.FieldType.boolean)).before args0 about1 = true := code_word (m := ⟨6, 0⟩) (meth := k6m0) (c := k6c0) (by decide +kernel) rfl rfl rfl (by decide +kernel)
def codes1 : List Jvm.Cond := [Jvm.Cond.code x code maxLocals ret, Jvm.Cond.code ({ cls := "com/example/librowmap/librowmap/sql/Dialect", name := "readsDateTimesThroughUtcCalendar", desc := "()Z" } : Jvm.MethodName) prog_92_method_13_code (1 : Nat) (Option.some Jvm.ClassFile.FieldType.boolean)]
set_option maxRecDepth 65536 in
theorem codes_eq : words1.filter isCode = codes1 := rfl
theorem w_codes : ∀ c ∈ words1.filter isCode, c.before args0 about1 = true := by
  rw [codes_eq]
  intro c hc
  simp only [codes1, List.mem_cons, List.not_mem_nil, or_false] at hc
  rcases hc with rfl | rfl
  · exact w_c0
  · exact w_c1
set_option maxRecDepth 65536 in
theorem w_t1 : words1.all (fun c => isCode c || c.before args0 about1) = true := by decide +kernel
theorem w_tables : (allAtoms (Jvm.Cond.code x code maxLocals ret :: tables_1)).before args0 about1 = true := by
  rw [allAtoms_all]
  show words1.all (fun c => c.before args0 about1) = true
  refine all_split ?_ w_codes
  rw [w_t1]
set_option maxRecDepth 65536 in
theorem w_case : (Jvm.Cond.and given_1 narrow_1).before args0 about1 = true := by decide +kernel
theorem w_applies : (headSpec (Jvm.Cond.code x code maxLocals ret :: tables_1) room_1).applies x e0.platform about1 = true :=
  (Spec.applies_iff w_frames).mpr ⟨w_running, w_runnable, w_alone, w_named, w_hears, w_ripe, w_room, w_tables⟩
theorem atStart : AtStart classFile x code maxLocals ret World_1 tables_1 room_1 Calls_1 rest_1 Pre_1 launch0 p0 e0 about1 theMethod args0 below0 :=
  ⟨lists_1, trivial, launch0.admits_env _ _ _, launch0.least_env, fairChoices_fair.cas, fairChoices_fair.clock, w_frames, w_args, w_heap, w_applies, trivial, trivial, w_case⟩
end start1
theorem witness_1 : WitnessClaimed_1 := ⟨start1.p0, start1.e0, start1.about1, start1.theMethod, start1.args0, start1.below0, start1.atStart⟩
end Jvm.Pilot.@@N@@
