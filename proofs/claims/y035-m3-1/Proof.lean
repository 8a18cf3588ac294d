import JvmDerived
import JvmDerived.Pilot.@@N@@Statement
import JvmDerived.Pilot.@@N@@Code
set_option linter.unusedVariables false
set_option linter.unusedSimpArgs false
namespace Jvm.Pilot.@@N@@
open Jvm Jvm.ClassFile Sem Op Lib Jvm.Free Jvm.Stand Jvm.LawKit Jvm.RoadKit Bundle Jvm.Pilot.@@N@@.Jvm.D
def own_QP (r : Option Value) (h0 : Heap) (n0 : Nat) (v : Option Value) (h : Heap) (L : List Loc) : Prop := v = r ∧ Fr n0 L ∧ h = h0
def own_Q0 (n0 : Nat) (v : Option Value) (h : Heap) (L : List Loc) : Prop := v = some (.int 1) ∧ Fr n0 L
section OwnWords
variable {args : Array Value} {s : State}
theorem own_eqI {t : Term} {k : Int32} (h : (Jvm.Cond.eq t (.int k)).value args s none s [] = some true) : t.eval args s none [] s = some (.int k) := by
  obtain ⟨x, y, h1, h2, h3, h4⟩ := cmp_v (Or.inl h)
  obtain rfl : y = .int k := (Option.some.inj h2).symm
  obtain ⟨z, rfl⟩ := h4
  have q := gotT (Cond.eq_ints h1 h2) h
  rw [h1, q]
theorem own_eqR {t u : Term} {b : Addr} (h : (Jvm.Cond.eq t u).value args s none s [] = some true) (hu : u.eval args s none [] s = some (.ref b)) : t.eval args s none [] s = some (.ref b) := by
  obtain ⟨x, y, h1, h2, h3, h4⟩ := cmp_v (Or.inl h)
  obtain rfl : y = .ref b := Option.some.inj (h2.symm.trans hu)
  have q := gotT (eq_R h1 h2 h4.2 h4.1) h
  rw [h1, q]
theorem own_fld {t : Term} {C n d : String} {a : Addr} {v : Value} (ht : t.eval args s none [] s = some (.ref a)) (h : (Term.field t C n d).eval args s none [] s = some v) : Fld s s.heap a C n d v := Fld.start ((fld_at ht).symm.trans h)
end OwnWords
theorem own_staKeep {Z : State} {h h' : Heap} {C n d : String} {v : Value} {ws : List Addr} (F : Sta Z h C n d v) (K : Keep h h' ws) (q : ∀ x ∈ ws, ∀ cell : Cell, h[x]? = some cell → cell.vm.isStatics = false) : Sta Z h' C n d v := by
  obtain ⟨cf, i, k, f, st, cell, h1, h2, h3, h4, h5, h6, h7⟩ := F
  refine ⟨cf, i, k, f, st, cell, h1, h2, h3, h4, K.2.1 st cell h5 (fun z => ?_), h6, h7⟩
  rw [q st z cell h5] at h6; cases h6
theorem own_mod13 (a : Int32) : ((a &&& (2147483647 : Int32)) % (13 : Int32)) = (0 : Int32) ∨ ((a &&& (2147483647 : Int32)) % (13 : Int32)) = (1 : Int32) ∨ ((a &&& (2147483647 : Int32)) % (13 : Int32)) = (2 : Int32) ∨ ((a &&& (2147483647 : Int32)) % (13 : Int32)) = (3 : Int32) ∨ ((a &&& (2147483647 : Int32)) % (13 : Int32)) = (4 : Int32) ∨ ((a &&& (2147483647 : Int32)) % (13 : Int32)) = (5 : Int32) ∨ ((a &&& (2147483647 : Int32)) % (13 : Int32)) = (6 : Int32) ∨ ((a &&& (2147483647 : Int32)) % (13 : Int32)) = (7 : Int32) ∨ ((a &&& (2147483647 : Int32)) % (13 : Int32)) = (8 : Int32) ∨ ((a &&& (2147483647 : Int32)) % (13 : Int32)) = (9 : Int32) ∨ ((a &&& (2147483647 : Int32)) % (13 : Int32)) = (10 : Int32) ∨ ((a &&& (2147483647 : Int32)) % (13 : Int32)) = (11 : Int32) ∨ ((a &&& (2147483647 : Int32)) % (13 : Int32)) = (12 : Int32) := by
  have h := c_mask a (2147483647 : Int32) 31 (by decide) (by decide)
  have q := (c_irem (a &&& (2147483647 : Int32)) (13 : Int32) 13 (by decide)).1 (by omega)
  have b : ((a &&& (2147483647 : Int32)) % (13 : Int32)).toInt = 0 ∨ ((a &&& (2147483647 : Int32)) % (13 : Int32)).toInt = 1 ∨ ((a &&& (2147483647 : Int32)) % (13 : Int32)).toInt = 2 ∨ ((a &&& (2147483647 : Int32)) % (13 : Int32)).toInt = 3 ∨ ((a &&& (2147483647 : Int32)) % (13 : Int32)).toInt = 4 ∨ ((a &&& (2147483647 : Int32)) % (13 : Int32)).toInt = 5 ∨ ((a &&& (2147483647 : Int32)) % (13 : Int32)).toInt = 6 ∨ ((a &&& (2147483647 : Int32)) % (13 : Int32)).toInt = 7 ∨ ((a &&& (2147483647 : Int32)) % (13 : Int32)).toInt = 8 ∨ ((a &&& (2147483647 : Int32)) % (13 : Int32)).toInt = 9 ∨ ((a &&& (2147483647 : Int32)) % (13 : Int32)).toInt = 10 ∨ ((a &&& (2147483647 : Int32)) % (13 : Int32)).toInt = 11 ∨ ((a &&& (2147483647 : Int32)) % (13 : Int32)).toInt = 12 := by omega
  simp only [← Int32.toInt_inj, Int32.reduceToInt]
  exact b
theorem d1_0 : decode prog_86_method_6_code 0 = .ok (.aload_n 0, 1) := by decide +kernel
theorem d1_1 : decode prog_86_method_6_code 1 = .ok (.getfield 66, 3) := by decide +kernel
theorem d1_4 : decode prog_86_method_6_code 4 = .ok (.getstatic 90, 3) := by decide +kernel
theorem d1_7 : decode prog_86_method_6_code 7 = .ok (.if_acmp .eq 13, 3) := by decide +kernel
theorem d1_20 : decode prog_86_method_6_code 20 = .ok (.iconst 1, 1) := by decide +kernel
theorem d1_21 : decode prog_86_method_6_code 21 = .ok (.goto 4, 3) := by decide +kernel
theorem d1_25 : decode prog_86_method_6_code 25 = .ok (.ireturn, 1) := by decide +kernel
theorem pn_1 : plainName "com/example/apq/apq/jpql/Operator" = true := by first | (simp [plainName, overriddenIn]; done) | decide +kernel
theorem d1_10 : decode prog_86_method_6_code 10 = .ok (.aload_n 0, 1) := by decide +kernel
theorem d1_11 : decode prog_86_method_6_code 11 = .ok (.getfield 66, 3) := by decide +kernel
theorem d1_14 : decode prog_86_method_6_code 14 = .ok (.getstatic 95, 3) := by decide +kernel
theorem d1_17 : decode prog_86_method_6_code 17 = .ok (.if_acmp .ne 7, 3) := by decide +kernel
theorem d1_24 : decode prog_86_method_6_code 24 = .ok (.iconst 0, 1) := by decide +kernel
theorem pd___Z : parseMethodDescriptor "()Z" = some ⟨[], some .boolean⟩ := by decide +kernel
theorem pn_0 : plainName "com/example/apq/apq/jpql/OperatorComparesPinLaw" = true := by first | (simp [plainName, overriddenIn]; done) | decide +kernel
theorem ef_rmE (m : MethodId) (u0 : Addr) : entryFrame m #[(.ref u0)] 1 = mkF m 0 #[.val (.ref u0)] [] := by first | (simp [entryFrame, mkF, argsToLocals, Value.category]; done) | rfl
set_option maxRecDepth 65536 in
set_option maxHeartbeats 40000000 in
theorem rmE (l : Launch) (Z : State) (a0 : Array Value) (hw : ∀ d ∈ tables_1, d.before a0 Z = true) (ws : List Jvm.Cond) (u0 : Addr) (kEQUALITY : Addr) (h0 : Heap) (n0 : Nat) (Z0 : n0 ≤ h0.size) (P_F_u0_Operator_kind : Fld Z h0 u0 "com/example/apq/apq/jpql/Operator" "kind" "Lcom/example/apq/apq/jpql/Operator$Kind;" (.ref kEQUALITY)) (P_S_Operator_Kind_EQUALITY : Sta Z h0 "com/example/apq/apq/jpql/Operator$Kind" "EQUALITY" "Lcom/example/apq/apq/jpql/Operator$Kind;" (.ref kEQUALITY)) :
    MetFree l (⟨"com/example/apq/apq/jpql/Operator", "compares", "()Z"⟩ : MethodName) (head1 (Jvm.Cond.code (⟨"com/example/apq/apq/jpql/Operator", "compares", "()Z"⟩ : MethodName) prog_86_method_6_code 1 (some .boolean) :: ws) ({ frames := 0, cells := 0, slots := 0, locals := 0 } : Room)) (fun a U => a = #[(.ref u0)] ∧ Z.Warmed39 U.vm ∧ U.heap = h0) (fun _ _ _ _ _ => True) (fun _ U o U' => ∃ v L, o = .returned v ∧ own_QP (some (.int (1 : Int32))) h0 n0 v U'.heap L ∧ FrameEnd U o U' L ({ frames := 0, cells := 0, slots := 0, locals := 0 } : Room).cells ({ frames := 0, cells := 0, slots := 0, locals := 0 } : Room).slots) := by
  refine MetFree.of_bodySF (plainFor_of_name pn_1) hisR ?_
  intro p e s m args below meth c s₁ Bd hml0 hP hK
  obtain ⟨rfl, hZ, hh⟩ := hP
  have hx := Bd.exec
  have hby := Bd.bytes
  have hml : c.maxLocals = 1 := hml0
  have hown : s.vm.findClass "com/example/apq/apq/jpql/Operator" = some m.cls := findClass_of_methodNamed Bd.named
  have hnm := (name_of_methodNamed Bd.named Bd.method).1
  have X0 : Stand p l e ({ frames := 0, cells := 0, slots := 0, locals := 0 } : Room) s m #[(.ref u0)] below meth c s₁ [] 0 0 := Stand.of_body Bd
  have e0 : s₁.heap = h0 := by rw [← hh, Bd.state]; rfl
  have N0 := Fr.nil n0
  have pre0 : ∀ t, Steps p.tables e below (s₁.setTop (mkF m 0 #[.val (.ref u0)] [])) t → Steps p.tables e below (s₁.setTop (entryFrame m #[(.ref u0)] 1)) t := fun t k => castTop (ef_rmE m u0) k
  obtain ⟨T1, X1, e1, st1⟩ := getF X0 hx hZ hown (host := "") (Or.inl (hw _ (List.mem_of_getElem? (i := 36) rfl))) Via.refl e0 P_F_u0_Operator_kind (g := (mkF m 1 #[.val (.ref u0)] [(.ref u0)])) rfl rfl (hb hby d1_1)
  obtain ⟨T2, X2, e2, st2⟩ := getS2 X1 hx hZ hown (host := "") (Or.inl (hw _ (List.mem_of_getElem? (i := 40) rfl))) Via.refl e1 P_S_Operator_Kind_EQUALITY (g := (mkF m 4 #[.val (.ref u0)] [(.ref kEQUALITY)])) rfl (hb hby d1_4)
  obtain ⟨fs, hr, hrun, hended, hW, hsame⟩ := X2.leave (v := some (.int (1 : Int32))) (fun h => by rw [Bd.returns] at h; cases h)
  refine ⟨_, _, pre0 _ ?_, hrun, hended, _, _, rfl, ?_, ⟨_, rfl⟩, hW, hsame.mono (by decide) (by decide)⟩
  · show Steps p.tables e below (s₁.setTop (mkF m 0 #[.val (.ref u0)] [])) _
    refine XS.aloadN X0.here hx rfl (hb hby d1_0) rfl rfl ?_
    show Steps p.tables e below (s₁.setTop (mkF m 1 #[.val (.ref u0)] [(.ref u0)])) _
    refine st1 _ ?_
    show Steps p.tables e below (T1.setTop (mkF m 4 #[.val (.ref u0)] [(.ref kEQUALITY)])) _
    refine st2 _ ?_
    show Steps p.tables e below (T2.setTop (mkF m 7 #[.val (.ref u0)] [(.ref kEQUALITY), (.ref kEQUALITY)])) _
    refine Jvm.RoadKit.acmp (g := (mkF m 7 #[.val (.ref u0)] [(.ref kEQUALITY), (.ref kEQUALITY)])) X2 hx rfl rfl rfl (pc0 := 7) (pc' := 20) (same := true) rfl (hb hby d1_7) rfl (decide_eq_true rfl) (by decide) (by decide) ?_
    show Steps p.tables e below (T2.setTop (mkF m 20 #[.val (.ref u0)] [])) _
    refine XS.iconst X2.here hx rfl (hb hby d1_20) ?_
    show Steps p.tables e below (T2.setTop (mkF m 21 #[.val (.ref u0)] [(.int (1 : Int32))])) _
    refine XS.goto X2.here hx rfl (pc0 := 21) (pc' := 25) rfl (hb hby d1_21) (by decide) (by decide) ?_
    show Steps p.tables e below (T2.setTop (mkF m 25 #[.val (.ref u0)] [(.int (1 : Int32))])) _
    exact retN X2 hx (t := .boolean) Bd.returns (by simp) (hb hby d1_25) hr
  · show own_QP (some (.int (1 : Int32))) h0 n0 _ T2.heap _
    rw [e2]
    exact ⟨rfl, N0, rfl⟩

theorem ef_rmO (m : MethodId) (u0 : Addr) : entryFrame m #[(.ref u0)] 1 = mkF m 0 #[.val (.ref u0)] [] := by first | (simp [entryFrame, mkF, argsToLocals, Value.category]; done) | rfl
set_option maxRecDepth 65536 in
set_option maxHeartbeats 40000000 in
theorem rmO (l : Launch) (Z : State) (a0 : Array Value) (hw : ∀ d ∈ tables_1, d.before a0 Z = true) (ws : List Jvm.Cond) (u0 : Addr) (kEQUALITY : Addr) (kORDERING : Addr) (h0 : Heap) (n0 : Nat) (Z0 : n0 ≤ h0.size) (P_F_u0_Operator_kind : Fld Z h0 u0 "com/example/apq/apq/jpql/Operator" "kind" "Lcom/example/apq/apq/jpql/Operator$Kind;" (.ref kORDERING)) (P_S_Operator_Kind_EQUALITY : Sta Z h0 "com/example/apq/apq/jpql/Operator$Kind" "EQUALITY" "Lcom/example/apq/apq/jpql/Operator$Kind;" (.ref kEQUALITY)) (P_S_Operator_Kind_ORDERING : Sta Z h0 "com/example/apq/apq/jpql/Operator$Kind" "ORDERING" "Lcom/example/apq/apq/jpql/Operator$Kind;" (.ref kORDERING)) (neA : kORDERING ≠ kEQUALITY) :
    MetFree l (⟨"com/example/apq/apq/jpql/Operator", "compares", "()Z"⟩ : MethodName) (head1 (Jvm.Cond.code (⟨"com/example/apq/apq/jpql/Operator", "compares", "()Z"⟩ : MethodName) prog_86_method_6_code 1 (some .boolean) :: ws) ({ frames := 0, cells := 0, slots := 0, locals := 0 } : Room)) (fun a U => a = #[(.ref u0)] ∧ Z.Warmed39 U.vm ∧ U.heap = h0) (fun _ _ _ _ _ => True) (fun _ U o U' => ∃ v L, o = .returned v ∧ own_QP (some (.int (1 : Int32))) h0 n0 v U'.heap L ∧ FrameEnd U o U' L ({ frames := 0, cells := 0, slots := 0, locals := 0 } : Room).cells ({ frames := 0, cells := 0, slots := 0, locals := 0 } : Room).slots) := by
  refine MetFree.of_bodySF (plainFor_of_name pn_1) hisR ?_
  intro p e s m args below meth c s₁ Bd hml0 hP hK
  obtain ⟨rfl, hZ, hh⟩ := hP
  have hx := Bd.exec
  have hby := Bd.bytes
  have hml : c.maxLocals = 1 := hml0
  have hown : s.vm.findClass "com/example/apq/apq/jpql/Operator" = some m.cls := findClass_of_methodNamed Bd.named
  have hnm := (name_of_methodNamed Bd.named Bd.method).1
  have X0 : Stand p l e ({ frames := 0, cells := 0, slots := 0, locals := 0 } : Room) s m #[(.ref u0)] below meth c s₁ [] 0 0 := Stand.of_body Bd
  have e0 : s₁.heap = h0 := by rw [← hh, Bd.state]; rfl
  have N0 := Fr.nil n0
  have pre0 : ∀ t, Steps p.tables e below (s₁.setTop (mkF m 0 #[.val (.ref u0)] [])) t → Steps p.tables e below (s₁.setTop (entryFrame m #[(.ref u0)] 1)) t := fun t k => castTop (ef_rmO m u0) k
  obtain ⟨T1, X1, e1, st1⟩ := getF X0 hx hZ hown (host := "") (Or.inl (hw _ (List.mem_of_getElem? (i := 36) rfl))) Via.refl e0 P_F_u0_Operator_kind (g := (mkF m 1 #[.val (.ref u0)] [(.ref u0)])) rfl rfl (hb hby d1_1)
  obtain ⟨T2, X2, e2, st2⟩ := getS2 X1 hx hZ hown (host := "") (Or.inl (hw _ (List.mem_of_getElem? (i := 40) rfl))) Via.refl e1 P_S_Operator_Kind_EQUALITY (g := (mkF m 4 #[.val (.ref u0)] [(.ref kORDERING)])) rfl (hb hby d1_4)
  obtain ⟨T3, X3, e3, st3⟩ := getF X2 hx hZ hown (host := "") (Or.inl (hw _ (List.mem_of_getElem? (i := 36) rfl))) Via.refl e2 P_F_u0_Operator_kind (g := (mkF m 11 #[.val (.ref u0)] [(.ref u0)])) rfl rfl (hb hby d1_11)
  obtain ⟨T4, X4, e4, st4⟩ := getS2 X3 hx hZ hown (host := "") (Or.inl (hw _ (List.mem_of_getElem? (i := 42) rfl))) Via.refl e3 P_S_Operator_Kind_ORDERING (g := (mkF m 14 #[.val (.ref u0)] [(.ref kORDERING)])) rfl (hb hby d1_14)
  obtain ⟨fs, hr, hrun, hended, hW, hsame⟩ := X4.leave (v := some (.int (1 : Int32))) (fun h => by rw [Bd.returns] at h; cases h)
  refine ⟨_, _, pre0 _ ?_, hrun, hended, _, _, rfl, ?_, ⟨_, rfl⟩, hW, hsame.mono (by decide) (by decide)⟩
  · show Steps p.tables e below (s₁.setTop (mkF m 0 #[.val (.ref u0)] [])) _
    refine XS.aloadN X0.here hx rfl (hb hby d1_0) rfl rfl ?_
    show Steps p.tables e below (s₁.setTop (mkF m 1 #[.val (.ref u0)] [(.ref u0)])) _
    refine st1 _ ?_
    show Steps p.tables e below (T1.setTop (mkF m 4 #[.val (.ref u0)] [(.ref kORDERING)])) _
    refine st2 _ ?_
    show Steps p.tables e below (T2.setTop (mkF m 7 #[.val (.ref u0)] [(.ref kEQUALITY), (.ref kORDERING)])) _
    refine Jvm.RoadKit.acmp (g := (mkF m 7 #[.val (.ref u0)] [(.ref kEQUALITY), (.ref kORDERING)])) X2 hx rfl rfl rfl (pc0 := 7) (pc' := 10) (same := false) rfl (hb hby d1_7) rfl (decide_eq_false fun q => neA (Value.ref.inj q)) (by decide) (by decide) ?_
    show Steps p.tables e below (T2.setTop (mkF m 10 #[.val (.ref u0)] [])) _
    refine XS.aloadN X2.here hx rfl (hb hby d1_10) rfl rfl ?_
    show Steps p.tables e below (T2.setTop (mkF m 11 #[.val (.ref u0)] [(.ref u0)])) _
    refine st3 _ ?_
    show Steps p.tables e below (T3.setTop (mkF m 14 #[.val (.ref u0)] [(.ref kORDERING)])) _
    refine st4 _ ?_
    show Steps p.tables e below (T4.setTop (mkF m 17 #[.val (.ref u0)] [(.ref kORDERING), (.ref kORDERING)])) _
    refine Jvm.RoadKit.acmp (g := (mkF m 17 #[.val (.ref u0)] [(.ref kORDERING), (.ref kORDERING)])) X4 hx rfl rfl rfl (pc0 := 17) (pc' := 20) (same := true) rfl (hb hby d1_17) rfl (decide_eq_true rfl) (by decide) (by decide) ?_
    show Steps p.tables e below (T4.setTop (mkF m 20 #[.val (.ref u0)] [])) _
    refine XS.iconst X4.here hx rfl (hb hby d1_20) ?_
    show Steps p.tables e below (T4.setTop (mkF m 21 #[.val (.ref u0)] [(.int (1 : Int32))])) _
    refine XS.goto X4.here hx rfl (pc0 := 21) (pc' := 25) rfl (hb hby d1_21) (by decide) (by decide) ?_
    show Steps p.tables e below (T4.setTop (mkF m 25 #[.val (.ref u0)] [(.int (1 : Int32))])) _
    exact retN X4 hx (t := .boolean) Bd.returns (by simp) (hb hby d1_25) hr
  · show own_QP (some (.int (1 : Int32))) h0 n0 _ T4.heap _
    rw [e4]
    exact ⟨rfl, N0, rfl⟩

theorem ef_rmX (m : MethodId) (u0 : Addr) : entryFrame m #[(.ref u0)] 1 = mkF m 0 #[.val (.ref u0)] [] := by first | (simp [entryFrame, mkF, argsToLocals, Value.category]; done) | rfl
set_option maxRecDepth 65536 in
set_option maxHeartbeats 40000000 in
theorem rmX (l : Launch) (Z : State) (a0 : Array Value) (hw : ∀ d ∈ tables_1, d.before a0 Z = true) (ws : List Jvm.Cond) (u0 : Addr) (kX : Addr) (kEQUALITY : Addr) (kORDERING : Addr) (h0 : Heap) (n0 : Nat) (Z0 : n0 ≤ h0.size) (P_F_u0_Operator_kind : Fld Z h0 u0 "com/example/apq/apq/jpql/Operator" "kind" "Lcom/example/apq/apq/jpql/Operator$Kind;" (.ref kX)) (P_S_Operator_Kind_EQUALITY : Sta Z h0 "com/example/apq/apq/jpql/Operator$Kind" "EQUALITY" "Lcom/example/apq/apq/jpql/Operator$Kind;" (.ref kEQUALITY)) (P_S_Operator_Kind_ORDERING : Sta Z h0 "com/example/apq/apq/jpql/Operator$Kind" "ORDERING" "Lcom/example/apq/apq/jpql/Operator$Kind;" (.ref kORDERING)) (neA : kX ≠ kEQUALITY) (neB : kX ≠ kORDERING) :
    MetFree l (⟨"com/example/apq/apq/jpql/Operator", "compares", "()Z"⟩ : MethodName) (head1 (Jvm.Cond.code (⟨"com/example/apq/apq/jpql/Operator", "compares", "()Z"⟩ : MethodName) prog_86_method_6_code 1 (some .boolean) :: ws) ({ frames := 0, cells := 0, slots := 0, locals := 0 } : Room)) (fun a U => a = #[(.ref u0)] ∧ Z.Warmed39 U.vm ∧ U.heap = h0) (fun _ _ _ _ _ => True) (fun _ U o U' => ∃ v L, o = .returned v ∧ own_QP (some (.int (0 : Int32))) h0 n0 v U'.heap L ∧ FrameEnd U o U' L ({ frames := 0, cells := 0, slots := 0, locals := 0 } : Room).cells ({ frames := 0, cells := 0, slots := 0, locals := 0 } : Room).slots) := by
  refine MetFree.of_bodySF (plainFor_of_name pn_1) hisR ?_
  intro p e s m args below meth c s₁ Bd hml0 hP hK
  obtain ⟨rfl, hZ, hh⟩ := hP
  have hx := Bd.exec
  have hby := Bd.bytes
  have hml : c.maxLocals = 1 := hml0
  have hown : s.vm.findClass "com/example/apq/apq/jpql/Operator" = some m.cls := findClass_of_methodNamed Bd.named
  have hnm := (name_of_methodNamed Bd.named Bd.method).1
  have X0 : Stand p l e ({ frames := 0, cells := 0, slots := 0, locals := 0 } : Room) s m #[(.ref u0)] below meth c s₁ [] 0 0 := Stand.of_body Bd
  have e0 : s₁.heap = h0 := by rw [← hh, Bd.state]; rfl
  have N0 := Fr.nil n0
  have pre0 : ∀ t, Steps p.tables e below (s₁.setTop (mkF m 0 #[.val (.ref u0)] [])) t → Steps p.tables e below (s₁.setTop (entryFrame m #[(.ref u0)] 1)) t := fun t k => castTop (ef_rmX m u0) k
  obtain ⟨T1, X1, e1, st1⟩ := getF X0 hx hZ hown (host := "") (Or.inl (hw _ (List.mem_of_getElem? (i := 36) rfl))) Via.refl e0 P_F_u0_Operator_kind (g := (mkF m 1 #[.val (.ref u0)] [(.ref u0)])) rfl rfl (hb hby d1_1)
  obtain ⟨T2, X2, e2, st2⟩ := getS2 X1 hx hZ hown (host := "") (Or.inl (hw _ (List.mem_of_getElem? (i := 40) rfl))) Via.refl e1 P_S_Operator_Kind_EQUALITY (g := (mkF m 4 #[.val (.ref u0)] [(.ref kX)])) rfl (hb hby d1_4)
  obtain ⟨T3, X3, e3, st3⟩ := getF X2 hx hZ hown (host := "") (Or.inl (hw _ (List.mem_of_getElem? (i := 36) rfl))) Via.refl e2 P_F_u0_Operator_kind (g := (mkF m 11 #[.val (.ref u0)] [(.ref u0)])) rfl rfl (hb hby d1_11)
  obtain ⟨T4, X4, e4, st4⟩ := getS2 X3 hx hZ hown (host := "") (Or.inl (hw _ (List.mem_of_getElem? (i := 42) rfl))) Via.refl e3 P_S_Operator_Kind_ORDERING (g := (mkF m 14 #[.val (.ref u0)] [(.ref kX)])) rfl (hb hby d1_14)
  obtain ⟨fs, hr, hrun, hended, hW, hsame⟩ := X4.leave (v := some (.int (0 : Int32))) (fun h => by rw [Bd.returns] at h; cases h)
  refine ⟨_, _, pre0 _ ?_, hrun, hended, _, _, rfl, ?_, ⟨_, rfl⟩, hW, hsame.mono (by decide) (by decide)⟩
  · show Steps p.tables e below (s₁.setTop (mkF m 0 #[.val (.ref u0)] [])) _
    refine XS.aloadN X0.here hx rfl (hb hby d1_0) rfl rfl ?_
    show Steps p.tables e below (s₁.setTop (mkF m 1 #[.val (.ref u0)] [(.ref u0)])) _
    refine st1 _ ?_
    show Steps p.tables e below (T1.setTop (mkF m 4 #[.val (.ref u0)] [(.ref kX)])) _
    refine st2 _ ?_
    show Steps p.tables e below (T2.setTop (mkF m 7 #[.val (.ref u0)] [(.ref kEQUALITY), (.ref kX)])) _
    refine Jvm.RoadKit.acmp (g := (mkF m 7 #[.val (.ref u0)] [(.ref kEQUALITY), (.ref kX)])) X2 hx rfl rfl rfl (pc0 := 7) (pc' := 10) (same := false) rfl (hb hby d1_7) rfl (decide_eq_false fun q => neA (Value.ref.inj q)) (by decide) (by decide) ?_
    show Steps p.tables e below (T2.setTop (mkF m 10 #[.val (.ref u0)] [])) _
    refine XS.aloadN X2.here hx rfl (hb hby d1_10) rfl rfl ?_
    show Steps p.tables e below (T2.setTop (mkF m 11 #[.val (.ref u0)] [(.ref u0)])) _
    refine st3 _ ?_
    show Steps p.tables e below (T3.setTop (mkF m 14 #[.val (.ref u0)] [(.ref kX)])) _
    refine st4 _ ?_
    show Steps p.tables e below (T4.setTop (mkF m 17 #[.val (.ref u0)] [(.ref kORDERING), (.ref kX)])) _
    refine Jvm.RoadKit.acmp (g := (mkF m 17 #[.val (.ref u0)] [(.ref kORDERING), (.ref kX)])) X4 hx rfl rfl rfl (pc0 := 17) (pc' := 24) (same := false) rfl (hb hby d1_17) rfl (decide_eq_false fun q => neB (Value.ref.inj q)) (by decide) (by decide) ?_
    show Steps p.tables e below (T4.setTop (mkF m 24 #[.val (.ref u0)] [])) _
    refine XS.iconst X4.here hx rfl (hb hby d1_24) ?_
    show Steps p.tables e below (T4.setTop (mkF m 25 #[.val (.ref u0)] [(.int (0 : Int32))])) _
    exact retN X4 hx (t := .boolean) Bd.returns (by simp) (hb hby d1_25) hr
  · show own_QP (some (.int (0 : Int32))) h0 n0 _ T4.heap _
    rw [e4]
    exact ⟨rfl, N0, rfl⟩

theorem ef_rm0 (m : MethodId) (p0 : Int32) : entryFrame m #[(.int p0)] maxLocals = mkF m 0 #[.val (.int p0), .unset, .unset, .unset] [] := by first | (simp [entryFrame, mkF, argsToLocals, Value.category, maxLocals]; done) | rfl
set_option maxRecDepth 65536 in
set_option maxHeartbeats 40000000 in
theorem rm0 (l : Launch) (Z : State) (a0 : Array Value) (hw : ∀ d ∈ tables_1, d.before a0 Z = true) (ws : List Jvm.Cond) (p0 : Int32) (kLOGICAL : Addr) (kEQUALITY : Addr) (kORDERING : Addr) (kADDITIVE : Addr) (kMULTIPLICATIVE : Addr) (wOR : Addr) (wAND : Addr) (wNOT : Addr) (wEQUAL : Addr) (wNOT_EQUAL : Addr) (wLESS : Addr) (wLESS_OR_EQUAL : Addr) (wGREATER : Addr) (wGREATER_OR_EQUAL : Addr) (wPLUS : Addr) (wMINUS : Addr) (wTIMES : Addr) (wDIVIDE : Addr) (h0 : Heap) (n0 : Nat) (Z0 : n0 ≤ h0.size) (P_S_Operator_Kind_EQUALITY : Sta Z h0 "com/example/apq/apq/jpql/Operator$Kind" "EQUALITY" "Lcom/example/apq/apq/jpql/Operator$Kind;" (.ref kEQUALITY)) (P_S_Operator_Kind_ORDERING : Sta Z h0 "com/example/apq/apq/jpql/Operator$Kind" "ORDERING" "Lcom/example/apq/apq/jpql/Operator$Kind;" (.ref kORDERING)) (P_S_Operator_OR : Sta Z h0 "com/example/apq/apq/jpql/Operator" "OR" "Lcom/example/apq/apq/jpql/Operator;" (.ref wOR)) (P_E_wOR : Exa Z h0 wOR "com/example/apq/apq/jpql/Operator") (P_F_wOR_Operator_kind : Fld Z h0 wOR "com/example/apq/apq/jpql/Operator" "kind" "Lcom/example/apq/apq/jpql/Operator$Kind;" (.ref kLOGICAL)) (P_S_Operator_AND : Sta Z h0 "com/example/apq/apq/jpql/Operator" "AND" "Lcom/example/apq/apq/jpql/Operator;" (.ref wAND)) (P_E_wAND : Exa Z h0 wAND "com/example/apq/apq/jpql/Operator") (P_F_wAND_Operator_kind : Fld Z h0 wAND "com/example/apq/apq/jpql/Operator" "kind" "Lcom/example/apq/apq/jpql/Operator$Kind;" (.ref kLOGICAL)) (P_S_Operator_NOT : Sta Z h0 "com/example/apq/apq/jpql/Operator" "NOT" "Lcom/example/apq/apq/jpql/Operator;" (.ref wNOT)) (P_E_wNOT : Exa Z h0 wNOT "com/example/apq/apq/jpql/Operator") (P_F_wNOT_Operator_kind : Fld Z h0 wNOT "com/example/apq/apq/jpql/Operator" "kind" "Lcom/example/apq/apq/jpql/Operator$Kind;" (.ref kLOGICAL)) (P_S_Operator_EQUAL : Sta Z h0 "com/example/apq/apq/jpql/Operator" "EQUAL" "Lcom/example/apq/apq/jpql/Operator;" (.ref wEQUAL)) (P_E_wEQUAL : Exa Z h0 wEQUAL "com/example/apq/apq/jpql/Operator") (P_F_wEQUAL_Operator_kind : Fld Z h0 wEQUAL "com/example/apq/apq/jpql/Operator" "kind" "Lcom/example/apq/apq/jpql/Operator$Kind;" (.ref kEQUALITY)) (P_S_Operator_NOT_EQUAL : Sta Z h0 "com/example/apq/apq/jpql/Operator" "NOT_EQUAL" "Lcom/example/apq/apq/jpql/Operator;" (.ref wNOT_EQUAL)) (P_E_wNOT_EQUAL : Exa Z h0 wNOT_EQUAL "com/example/apq/apq/jpql/Operator") (P_F_wNOT_EQUAL_Operator_kind : Fld Z h0 wNOT_EQUAL "com/example/apq/apq/jpql/Operator" "kind" "Lcom/example/apq/apq/jpql/Operator$Kind;" (.ref kEQUALITY)) (P_S_Operator_LESS : Sta Z h0 "com/example/apq/apq/jpql/Operator" "LESS" "Lcom/example/apq/apq/jpql/Operator;" (.ref wLESS)) (P_E_wLESS : Exa Z h0 wLESS "com/example/apq/apq/jpql/Operator") (P_F_wLESS_Operator_kind : Fld Z h0 wLESS "com/example/apq/apq/jpql/Operator" "kind" "Lcom/example/apq/apq/jpql/Operator$Kind;" (.ref kORDERING)) (P_S_Operator_LESS_OR_EQUAL : Sta Z h0 "com/example/apq/apq/jpql/Operator" "LESS_OR_EQUAL" "Lcom/example/apq/apq/jpql/Operator;" (.ref wLESS_OR_EQUAL)) (P_E_wLESS_OR_EQUAL : Exa Z h0 wLESS_OR_EQUAL "com/example/apq/apq/jpql/Operator") (P_F_wLESS_OR_EQUAL_Operator_kind : Fld Z h0 wLESS_OR_EQUAL "com/example/apq/apq/jpql/Operator" "kind" "Lcom/example/apq/apq/jpql/Operator$Kind;" (.ref kORDERING)) (P_S_Operator_GREATER : Sta Z h0 "com/example/apq/apq/jpql/Operator" "GREATER" "Lcom/example/apq/apq/jpql/Operator;" (.ref wGREATER)) (P_E_wGREATER : Exa Z h0 wGREATER "com/example/apq/apq/jpql/Operator") (P_F_wGREATER_Operator_kind : Fld Z h0 wGREATER "com/example/apq/apq/jpql/Operator" "kind" "Lcom/example/apq/apq/jpql/Operator$Kind;" (.ref kORDERING)) (P_S_Operator_GREATER_OR_EQUAL : Sta Z h0 "com/example/apq/apq/jpql/Operator" "GREATER_OR_EQUAL" "Lcom/example/apq/apq/jpql/Operator;" (.ref wGREATER_OR_EQUAL)) (P_E_wGREATER_OR_EQUAL : Exa Z h0 wGREATER_OR_EQUAL "com/example/apq/apq/jpql/Operator") (P_F_wGREATER_OR_EQUAL_Operator_kind : Fld Z h0 wGREATER_OR_EQUAL "com/example/apq/apq/jpql/Operator" "kind" "Lcom/example/apq/apq/jpql/Operator$Kind;" (.ref kORDERING)) (P_S_Operator_PLUS : Sta Z h0 "com/example/apq/apq/jpql/Operator" "PLUS" "Lcom/example/apq/apq/jpql/Operator;" (.ref wPLUS)) (P_E_wPLUS : Exa Z h0 wPLUS "com/example/apq/apq/jpql/Operator") (P_F_wPLUS_Operator_kind : Fld Z h0 wPLUS "com/example/apq/apq/jpql/Operator" "kind" "Lcom/example/apq/apq/jpql/Operator$Kind;" (.ref kADDITIVE)) (P_S_Operator_MINUS : Sta Z h0 "com/example/apq/apq/jpql/Operator" "MINUS" "Lcom/example/apq/apq/jpql/Operator;" (.ref wMINUS)) (P_E_wMINUS : Exa Z h0 wMINUS "com/example/apq/apq/jpql/Operator") (P_F_wMINUS_Operator_kind : Fld Z h0 wMINUS "com/example/apq/apq/jpql/Operator" "kind" "Lcom/example/apq/apq/jpql/Operator$Kind;" (.ref kADDITIVE)) (P_S_Operator_TIMES : Sta Z h0 "com/example/apq/apq/jpql/Operator" "TIMES" "Lcom/example/apq/apq/jpql/Operator;" (.ref wTIMES)) (P_E_wTIMES : Exa Z h0 wTIMES "com/example/apq/apq/jpql/Operator") (P_F_wTIMES_Operator_kind : Fld Z h0 wTIMES "com/example/apq/apq/jpql/Operator" "kind" "Lcom/example/apq/apq/jpql/Operator$Kind;" (.ref kMULTIPLICATIVE)) (P_S_Operator_DIVIDE : Sta Z h0 "com/example/apq/apq/jpql/Operator" "DIVIDE" "Lcom/example/apq/apq/jpql/Operator;" (.ref wDIVIDE)) (P_E_wDIVIDE : Exa Z h0 wDIVIDE "com/example/apq/apq/jpql/Operator") (P_F_wDIVIDE_Operator_kind : Fld Z h0 wDIVIDE "com/example/apq/apq/jpql/Operator" "kind" "Lcom/example/apq/apq/jpql/Operator$Kind;" (.ref kMULTIPLICATIVE)) (ne_ORDERING_EQUALITY : kORDERING ≠ kEQUALITY) (ne_LOGICAL_EQUALITY : kLOGICAL ≠ kEQUALITY) (ne_LOGICAL_ORDERING : kLOGICAL ≠ kORDERING) (ne_ADDITIVE_EQUALITY : kADDITIVE ≠ kEQUALITY) (ne_ADDITIVE_ORDERING : kADDITIVE ≠ kORDERING) (ne_MULTIPLICATIVE_EQUALITY : kMULTIPLICATIVE ≠ kEQUALITY) (ne_MULTIPLICATIVE_ORDERING : kMULTIPLICATIVE ≠ kORDERING) :
    MetFree l x (head1 (Jvm.Cond.code x code maxLocals ret :: ws) room_1) (fun a U => a = #[(.int p0)] ∧ Z.Warmed39 U.vm ∧ U.heap = h0) (fun _ _ _ _ _ => True) (fun _ U o U' => ∃ v L, o = .returned v ∧ own_Q0 n0 v U'.heap L ∧ FrameEnd U o U' L room_1.cells room_1.slots) := by
  refine MetFree.of_bodySF (plainFor_of_name pn_0) hisR ?_
  intro p e s m args below meth c s₁ Bd hml0 hP hK
  obtain ⟨rfl, hZ, hh⟩ := hP
  have hx := Bd.exec
  have hby := Bd.bytes
  have hml : c.maxLocals = 4 := hml0
  have hown : s.vm.findClass "com/example/apq/apq/jpql/OperatorComparesPinLaw" = some m.cls := findClass_of_methodNamed Bd.named
  have hnm := (name_of_methodNamed Bd.named Bd.method).1
  have X0 : Stand p l e room_1 s m #[(.int p0)] below meth c s₁ [] 0 0 := Stand.of_body Bd
  have e0 : s₁.heap = h0 := by rw [← hh, Bd.state]; rfl
  have N0 := Fr.nil n0
  have pre0 : ∀ t, Steps p.tables e below (s₁.setTop (mkF m 0 #[.val (.int p0), .unset, .unset, .unset] [])) t → Steps p.tables e below (s₁.setTop (entryFrame m #[(.int p0)] maxLocals)) t := fun t k => castTop (ef_rm0 m p0) k
  obtain ⟨T1, h1, k1, X1, e1, E1, A1, O1, st1⟩ := newR X0 hx hZ hown (hw _ (List.mem_of_getElem? (i := 0) rfl)) (hw _ (List.mem_of_getElem? (i := 1) rfl)) e0 (g := (mkF m 2 #[.val (.int p0), .unset, .unset, .unset] [(.int (13 : Int32))])) rfl (hb hby at_2) rfl (by decide) (cap := 13) (by decide) (by decide) (by decide) (by decide)
  obtain ⟨b1, g1⟩ : ∃ z, z = h0.size := ⟨_, rfl⟩
  rw [← g1] at A1 st1
  have ne2 : wOR ≠ b1 := Nat.ne_of_lt (Nat.lt_of_lt_of_le P_E_wOR.lt (Nat.le_of_eq g1.symm))
  have ne3 : wAND ≠ b1 := Nat.ne_of_lt (Nat.lt_of_lt_of_le P_E_wAND.lt (Nat.le_of_eq g1.symm))
  have ne4 : wNOT ≠ b1 := Nat.ne_of_lt (Nat.lt_of_lt_of_le P_E_wNOT.lt (Nat.le_of_eq g1.symm))
  have ne5 : wEQUAL ≠ b1 := Nat.ne_of_lt (Nat.lt_of_lt_of_le P_E_wEQUAL.lt (Nat.le_of_eq g1.symm))
  have ne6 : wNOT_EQUAL ≠ b1 := Nat.ne_of_lt (Nat.lt_of_lt_of_le P_E_wNOT_EQUAL.lt (Nat.le_of_eq g1.symm))
  have ne7 : wLESS ≠ b1 := Nat.ne_of_lt (Nat.lt_of_lt_of_le P_E_wLESS.lt (Nat.le_of_eq g1.symm))
  have ne8 : wLESS_OR_EQUAL ≠ b1 := Nat.ne_of_lt (Nat.lt_of_lt_of_le P_E_wLESS_OR_EQUAL.lt (Nat.le_of_eq g1.symm))
  have ne9 : wGREATER ≠ b1 := Nat.ne_of_lt (Nat.lt_of_lt_of_le P_E_wGREATER.lt (Nat.le_of_eq g1.symm))
  have ne10 : wGREATER_OR_EQUAL ≠ b1 := Nat.ne_of_lt (Nat.lt_of_lt_of_le P_E_wGREATER_OR_EQUAL.lt (Nat.le_of_eq g1.symm))
  have ne11 : wPLUS ≠ b1 := Nat.ne_of_lt (Nat.lt_of_lt_of_le P_E_wPLUS.lt (Nat.le_of_eq g1.symm))
  have ne12 : wMINUS ≠ b1 := Nat.ne_of_lt (Nat.lt_of_lt_of_le P_E_wMINUS.lt (Nat.le_of_eq g1.symm))
  have ne13 : wTIMES ≠ b1 := Nat.ne_of_lt (Nat.lt_of_lt_of_le P_E_wTIMES.lt (Nat.le_of_eq g1.symm))
  have ne14 : wDIVIDE ≠ b1 := Nat.ne_of_lt (Nat.lt_of_lt_of_le P_E_wDIVIDE.lt (Nat.le_of_eq g1.symm))
  have o1 : n0 ≤ b1 := Nat.le_trans Z0 (Nat.le_of_eq g1.symm)
  have z1 : h0.size ≤ b1 := Nat.le_trans (Keep.refl h0 []).1 (Nat.le_of_eq g1.symm)
  have K1 : Keep h0 h1 [] := (Keep.refl h0 []).ext E1
  have V1 : Arv Z h1 b1 k1 (.object "com/example/apq/apq/jpql/Operator") (13 : Int32) [.null, .null, .null, .null, .null, .null, .null, .null, .null, .null, .null, .null, .null] .null := (Arv.new A1 (by decide)).pad (pad_rep [] .null 13)
  have f15 : Sta Z h1 "com/example/apq/apq/jpql/Operator" "OR" "Lcom/example/apq/apq/jpql/Operator;" (.ref wOR) := (P_S_Operator_OR.ext E1)
  obtain ⟨T16, X16, e16, st16⟩ := getS2 X1 hx hZ hown (host := "") (Or.inl (hw _ (List.mem_of_getElem? (i := 2) rfl))) Via.refl e1 f15 (g := (mkF m 7 #[.val (.int p0), .unset, .unset, .unset] [(.int (0 : Int32)), (.ref b1), (.ref b1)])) rfl (hb hby at_7)
  have f17 : Exa Z h1 wOR "com/example/apq/apq/jpql/Operator" := (P_E_wOR.ext E1)
  obtain ⟨cl18, Ar18, q18, S18, N18_, H18, G18⟩ := V1
  have hin18 : ¬ ((0 : Int32) < 0 ∨ cl18.slots.size ≤ ((0 : Int32)).toNatClampNeg) := inb_of S18 ⟨by decide, by decide⟩
  obtain ⟨T19, h19, X19, e19, W19, st19⟩ := stR X16 hx hZ e16 Ar18 (j := (0 : Int32)) hin18 rfl (Sto.ofV Ar18 q18 O1 (Ins.self f17)) (g := (mkF m 10 #[.val (.int p0), .unset, .unset, .unset] [(.ref wOR), (.int (0 : Int32)), (.ref b1), (.ref b1)])) rfl rfl (hb hby at_10)
  have V19 : Arv Z h19 b1 k1 (.object "com/example/apq/apq/jpql/Operator") (13 : Int32) [(.ref wOR), .null, .null, .null, .null, .null, .null, .null, .null, .null, .null, .null, .null] .null := Arv.set Ar18 q18 S18 N18_ H18 G18 rfl W19 0 rfl (Nat.le_of_ble_eq_true rfl)
  have N20 := Fr.snoc X19 N0 o1
  have K21 : Keep h0 h19 [] := K1.wr W19 (Or.inr z1)
  have f22 : Sta Z h19 "com/example/apq/apq/jpql/Operator" "AND" "Lcom/example/apq/apq/jpql/Operator;" (.ref wAND) := ((P_S_Operator_AND.ext E1).wr W19)
  obtain ⟨T23, X23, e23, st23⟩ := getS2 X19 hx hZ hown (host := "") (Or.inl (hw _ (List.mem_of_getElem? (i := 6) rfl))) Via.refl e19 f22 (g := (mkF m 13 #[.val (.int p0), .unset, .unset, .unset] [(.int (1 : Int32)), (.ref b1), (.ref b1)])) rfl (hb hby at_13)
  have f24 : Exa Z h19 wAND "com/example/apq/apq/jpql/Operator" := ((P_E_wAND.ext E1).wr W19)
  obtain ⟨cl25, Ar25, q25, S25, N25_, H25, G25⟩ := V19
  have hin25 : ¬ ((1 : Int32) < 0 ∨ cl25.slots.size ≤ ((1 : Int32)).toNatClampNeg) := inb_of S25 ⟨by decide, by decide⟩
  obtain ⟨T26, h26, X26, e26, W26, st26⟩ := stR X23 hx hZ e23 Ar25 (j := (1 : Int32)) hin25 rfl (Sto.ofV Ar25 q25 O1 (Ins.self f24)) (g := (mkF m 16 #[.val (.int p0), .unset, .unset, .unset] [(.ref wAND), (.int (1 : Int32)), (.ref b1), (.ref b1)])) rfl rfl (hb hby at_16)
  have V26 : Arv Z h26 b1 k1 (.object "com/example/apq/apq/jpql/Operator") (13 : Int32) [(.ref wOR), (.ref wAND), .null, .null, .null, .null, .null, .null, .null, .null, .null, .null, .null] .null := Arv.set Ar25 q25 S25 N25_ H25 G25 rfl W26 1 rfl (Nat.le_of_ble_eq_true rfl)
  have N27 := Fr.snoc X26 N20 o1
  have K28 : Keep h0 h26 [] := K21.wr W26 (Or.inr z1)
  have f29 : Sta Z h26 "com/example/apq/apq/jpql/Operator" "NOT" "Lcom/example/apq/apq/jpql/Operator;" (.ref wNOT) := (((P_S_Operator_NOT.ext E1).wr W19).wr W26)
  obtain ⟨T30, X30, e30, st30⟩ := getS2 X26 hx hZ hown (host := "") (Or.inl (hw _ (List.mem_of_getElem? (i := 8) rfl))) Via.refl e26 f29 (g := (mkF m 19 #[.val (.int p0), .unset, .unset, .unset] [(.int (2 : Int32)), (.ref b1), (.ref b1)])) rfl (hb hby at_19)
  have f31 : Exa Z h26 wNOT "com/example/apq/apq/jpql/Operator" := (((P_E_wNOT.ext E1).wr W19).wr W26)
  obtain ⟨cl32, Ar32, q32, S32, N32_, H32, G32⟩ := V26
  have hin32 : ¬ ((2 : Int32) < 0 ∨ cl32.slots.size ≤ ((2 : Int32)).toNatClampNeg) := inb_of S32 ⟨by decide, by decide⟩
  obtain ⟨T33, h33, X33, e33, W33, st33⟩ := stR X30 hx hZ e30 Ar32 (j := (2 : Int32)) hin32 rfl (Sto.ofV Ar32 q32 O1 (Ins.self f31)) (g := (mkF m 22 #[.val (.int p0), .unset, .unset, .unset] [(.ref wNOT), (.int (2 : Int32)), (.ref b1), (.ref b1)])) rfl rfl (hb hby at_22)
  have V33 : Arv Z h33 b1 k1 (.object "com/example/apq/apq/jpql/Operator") (13 : Int32) [(.ref wOR), (.ref wAND), (.ref wNOT), .null, .null, .null, .null, .null, .null, .null, .null, .null, .null] .null := Arv.set Ar32 q32 S32 N32_ H32 G32 rfl W33 2 rfl (Nat.le_of_ble_eq_true rfl)
  have N34 := Fr.snoc X33 N27 o1
  have K35 : Keep h0 h33 [] := K28.wr W33 (Or.inr z1)
  have f36 : Sta Z h33 "com/example/apq/apq/jpql/Operator" "EQUAL" "Lcom/example/apq/apq/jpql/Operator;" (.ref wEQUAL) := ((((P_S_Operator_EQUAL.ext E1).wr W19).wr W26).wr W33)
  obtain ⟨T37, X37, e37, st37⟩ := getS2 X33 hx hZ hown (host := "") (Or.inl (hw _ (List.mem_of_getElem? (i := 10) rfl))) Via.refl e33 f36 (g := (mkF m 25 #[.val (.int p0), .unset, .unset, .unset] [(.int (3 : Int32)), (.ref b1), (.ref b1)])) rfl (hb hby at_25)
  have f38 : Exa Z h33 wEQUAL "com/example/apq/apq/jpql/Operator" := ((((P_E_wEQUAL.ext E1).wr W19).wr W26).wr W33)
  obtain ⟨cl39, Ar39, q39, S39, N39_, H39, G39⟩ := V33
  have hin39 : ¬ ((3 : Int32) < 0 ∨ cl39.slots.size ≤ ((3 : Int32)).toNatClampNeg) := inb_of S39 ⟨by decide, by decide⟩
  obtain ⟨T40, h40, X40, e40, W40, st40⟩ := stR X37 hx hZ e37 Ar39 (j := (3 : Int32)) hin39 rfl (Sto.ofV Ar39 q39 O1 (Ins.self f38)) (g := (mkF m 28 #[.val (.int p0), .unset, .unset, .unset] [(.ref wEQUAL), (.int (3 : Int32)), (.ref b1), (.ref b1)])) rfl rfl (hb hby at_28)
  have V40 : Arv Z h40 b1 k1 (.object "com/example/apq/apq/jpql/Operator") (13 : Int32) [(.ref wOR), (.ref wAND), (.ref wNOT), (.ref wEQUAL), .null, .null, .null, .null, .null, .null, .null, .null, .null] .null := Arv.set Ar39 q39 S39 N39_ H39 G39 rfl W40 3 rfl (Nat.le_of_ble_eq_true rfl)
  have N41 := Fr.snoc X40 N34 o1
  have K42 : Keep h0 h40 [] := K35.wr W40 (Or.inr z1)
  have f43 : Sta Z h40 "com/example/apq/apq/jpql/Operator" "NOT_EQUAL" "Lcom/example/apq/apq/jpql/Operator;" (.ref wNOT_EQUAL) := (((((P_S_Operator_NOT_EQUAL.ext E1).wr W19).wr W26).wr W33).wr W40)
  obtain ⟨T44, X44, e44, st44⟩ := getS2 X40 hx hZ hown (host := "") (Or.inl (hw _ (List.mem_of_getElem? (i := 12) rfl))) Via.refl e40 f43 (g := (mkF m 31 #[.val (.int p0), .unset, .unset, .unset] [(.int (4 : Int32)), (.ref b1), (.ref b1)])) rfl (hb hby at_31)
  have f45 : Exa Z h40 wNOT_EQUAL "com/example/apq/apq/jpql/Operator" := (((((P_E_wNOT_EQUAL.ext E1).wr W19).wr W26).wr W33).wr W40)
  obtain ⟨cl46, Ar46, q46, S46, N46_, H46, G46⟩ := V40
  have hin46 : ¬ ((4 : Int32) < 0 ∨ cl46.slots.size ≤ ((4 : Int32)).toNatClampNeg) := inb_of S46 ⟨by decide, by decide⟩
  obtain ⟨T47, h47, X47, e47, W47, st47⟩ := stR X44 hx hZ e44 Ar46 (j := (4 : Int32)) hin46 rfl (Sto.ofV Ar46 q46 O1 (Ins.self f45)) (g := (mkF m 34 #[.val (.int p0), .unset, .unset, .unset] [(.ref wNOT_EQUAL), (.int (4 : Int32)), (.ref b1), (.ref b1)])) rfl rfl (hb hby at_34)
  have V47 : Arv Z h47 b1 k1 (.object "com/example/apq/apq/jpql/Operator") (13 : Int32) [(.ref wOR), (.ref wAND), (.ref wNOT), (.ref wEQUAL), (.ref wNOT_EQUAL), .null, .null, .null, .null, .null, .null, .null, .null] .null := Arv.set Ar46 q46 S46 N46_ H46 G46 rfl W47 4 rfl (Nat.le_of_ble_eq_true rfl)
  have N48 := Fr.snoc X47 N41 o1
  have K49 : Keep h0 h47 [] := K42.wr W47 (Or.inr z1)
  have f50 : Sta Z h47 "com/example/apq/apq/jpql/Operator" "LESS" "Lcom/example/apq/apq/jpql/Operator;" (.ref wLESS) := ((((((P_S_Operator_LESS.ext E1).wr W19).wr W26).wr W33).wr W40).wr W47)
  obtain ⟨T51, X51, e51, st51⟩ := getS2 X47 hx hZ hown (host := "") (Or.inl (hw _ (List.mem_of_getElem? (i := 14) rfl))) Via.refl e47 f50 (g := (mkF m 37 #[.val (.int p0), .unset, .unset, .unset] [(.int (5 : Int32)), (.ref b1), (.ref b1)])) rfl (hb hby at_37)
  have f52 : Exa Z h47 wLESS "com/example/apq/apq/jpql/Operator" := ((((((P_E_wLESS.ext E1).wr W19).wr W26).wr W33).wr W40).wr W47)
  obtain ⟨cl53, Ar53, q53, S53, N53_, H53, G53⟩ := V47
  have hin53 : ¬ ((5 : Int32) < 0 ∨ cl53.slots.size ≤ ((5 : Int32)).toNatClampNeg) := inb_of S53 ⟨by decide, by decide⟩
  obtain ⟨T54, h54, X54, e54, W54, st54⟩ := stR X51 hx hZ e51 Ar53 (j := (5 : Int32)) hin53 rfl (Sto.ofV Ar53 q53 O1 (Ins.self f52)) (g := (mkF m 40 #[.val (.int p0), .unset, .unset, .unset] [(.ref wLESS), (.int (5 : Int32)), (.ref b1), (.ref b1)])) rfl rfl (hb hby at_40)
  have V54 : Arv Z h54 b1 k1 (.object "com/example/apq/apq/jpql/Operator") (13 : Int32) [(.ref wOR), (.ref wAND), (.ref wNOT), (.ref wEQUAL), (.ref wNOT_EQUAL), (.ref wLESS), .null, .null, .null, .null, .null, .null, .null] .null := Arv.set Ar53 q53 S53 N53_ H53 G53 rfl W54 5 rfl (Nat.le_of_ble_eq_true rfl)
  have N55 := Fr.snoc X54 N48 o1
  have K56 : Keep h0 h54 [] := K49.wr W54 (Or.inr z1)
  have f57 : Sta Z h54 "com/example/apq/apq/jpql/Operator" "LESS_OR_EQUAL" "Lcom/example/apq/apq/jpql/Operator;" (.ref wLESS_OR_EQUAL) := (((((((P_S_Operator_LESS_OR_EQUAL.ext E1).wr W19).wr W26).wr W33).wr W40).wr W47).wr W54)
  obtain ⟨T58, X58, e58, st58⟩ := getS2 X54 hx hZ hown (host := "") (Or.inl (hw _ (List.mem_of_getElem? (i := 16) rfl))) Via.refl e54 f57 (g := (mkF m 44 #[.val (.int p0), .unset, .unset, .unset] [(.int (6 : Int32)), (.ref b1), (.ref b1)])) rfl (hb hby at_44)
  have f59 : Exa Z h54 wLESS_OR_EQUAL "com/example/apq/apq/jpql/Operator" := (((((((P_E_wLESS_OR_EQUAL.ext E1).wr W19).wr W26).wr W33).wr W40).wr W47).wr W54)
  obtain ⟨cl60, Ar60, q60, S60, N60_, H60, G60⟩ := V54
  have hin60 : ¬ ((6 : Int32) < 0 ∨ cl60.slots.size ≤ ((6 : Int32)).toNatClampNeg) := inb_of S60 ⟨by decide, by decide⟩
  obtain ⟨T61, h61, X61, e61, W61, st61⟩ := stR X58 hx hZ e58 Ar60 (j := (6 : Int32)) hin60 rfl (Sto.ofV Ar60 q60 O1 (Ins.self f59)) (g := (mkF m 47 #[.val (.int p0), .unset, .unset, .unset] [(.ref wLESS_OR_EQUAL), (.int (6 : Int32)), (.ref b1), (.ref b1)])) rfl rfl (hb hby at_47)
  have V61 : Arv Z h61 b1 k1 (.object "com/example/apq/apq/jpql/Operator") (13 : Int32) [(.ref wOR), (.ref wAND), (.ref wNOT), (.ref wEQUAL), (.ref wNOT_EQUAL), (.ref wLESS), (.ref wLESS_OR_EQUAL), .null, .null, .null, .null, .null, .null] .null := Arv.set Ar60 q60 S60 N60_ H60 G60 rfl W61 6 rfl (Nat.le_of_ble_eq_true rfl)
  have N62 := Fr.snoc X61 N55 o1
  have K63 : Keep h0 h61 [] := K56.wr W61 (Or.inr z1)
  have f64 : Sta Z h61 "com/example/apq/apq/jpql/Operator" "GREATER" "Lcom/example/apq/apq/jpql/Operator;" (.ref wGREATER) := ((((((((P_S_Operator_GREATER.ext E1).wr W19).wr W26).wr W33).wr W40).wr W47).wr W54).wr W61)
  obtain ⟨T65, X65, e65, st65⟩ := getS2 X61 hx hZ hown (host := "") (Or.inl (hw _ (List.mem_of_getElem? (i := 18) rfl))) Via.refl e61 f64 (g := (mkF m 51 #[.val (.int p0), .unset, .unset, .unset] [(.int (7 : Int32)), (.ref b1), (.ref b1)])) rfl (hb hby at_51)
  have f66 : Exa Z h61 wGREATER "com/example/apq/apq/jpql/Operator" := ((((((((P_E_wGREATER.ext E1).wr W19).wr W26).wr W33).wr W40).wr W47).wr W54).wr W61)
  obtain ⟨cl67, Ar67, q67, S67, N67_, H67, G67⟩ := V61
  have hin67 : ¬ ((7 : Int32) < 0 ∨ cl67.slots.size ≤ ((7 : Int32)).toNatClampNeg) := inb_of S67 ⟨by decide, by decide⟩
  obtain ⟨T68, h68, X68, e68, W68, st68⟩ := stR X65 hx hZ e65 Ar67 (j := (7 : Int32)) hin67 rfl (Sto.ofV Ar67 q67 O1 (Ins.self f66)) (g := (mkF m 54 #[.val (.int p0), .unset, .unset, .unset] [(.ref wGREATER), (.int (7 : Int32)), (.ref b1), (.ref b1)])) rfl rfl (hb hby at_54)
  have V68 : Arv Z h68 b1 k1 (.object "com/example/apq/apq/jpql/Operator") (13 : Int32) [(.ref wOR), (.ref wAND), (.ref wNOT), (.ref wEQUAL), (.ref wNOT_EQUAL), (.ref wLESS), (.ref wLESS_OR_EQUAL), (.ref wGREATER), .null, .null, .null, .null, .null] .null := Arv.set Ar67 q67 S67 N67_ H67 G67 rfl W68 7 rfl (Nat.le_of_ble_eq_true rfl)
  have N69 := Fr.snoc X68 N62 o1
  have K70 : Keep h0 h68 [] := K63.wr W68 (Or.inr z1)
  have f71 : Sta Z h68 "com/example/apq/apq/jpql/Operator" "GREATER_OR_EQUAL" "Lcom/example/apq/apq/jpql/Operator;" (.ref wGREATER_OR_EQUAL) := (((((((((P_S_Operator_GREATER_OR_EQUAL.ext E1).wr W19).wr W26).wr W33).wr W40).wr W47).wr W54).wr W61).wr W68)
  obtain ⟨T72, X72, e72, st72⟩ := getS2 X68 hx hZ hown (host := "") (Or.inl (hw _ (List.mem_of_getElem? (i := 20) rfl))) Via.refl e68 f71 (g := (mkF m 58 #[.val (.int p0), .unset, .unset, .unset] [(.int (8 : Int32)), (.ref b1), (.ref b1)])) rfl (hb hby at_58)
  have f73 : Exa Z h68 wGREATER_OR_EQUAL "com/example/apq/apq/jpql/Operator" := (((((((((P_E_wGREATER_OR_EQUAL.ext E1).wr W19).wr W26).wr W33).wr W40).wr W47).wr W54).wr W61).wr W68)
  obtain ⟨cl74, Ar74, q74, S74, N74_, H74, G74⟩ := V68
  have hin74 : ¬ ((8 : Int32) < 0 ∨ cl74.slots.size ≤ ((8 : Int32)).toNatClampNeg) := inb_of S74 ⟨by decide, by decide⟩
  obtain ⟨T75, h75, X75, e75, W75, st75⟩ := stR X72 hx hZ e72 Ar74 (j := (8 : Int32)) hin74 rfl (Sto.ofV Ar74 q74 O1 (Ins.self f73)) (g := (mkF m 61 #[.val (.int p0), .unset, .unset, .unset] [(.ref wGREATER_OR_EQUAL), (.int (8 : Int32)), (.ref b1), (.ref b1)])) rfl rfl (hb hby at_61)
  have V75 : Arv Z h75 b1 k1 (.object "com/example/apq/apq/jpql/Operator") (13 : Int32) [(.ref wOR), (.ref wAND), (.ref wNOT), (.ref wEQUAL), (.ref wNOT_EQUAL), (.ref wLESS), (.ref wLESS_OR_EQUAL), (.ref wGREATER), (.ref wGREATER_OR_EQUAL), .null, .null, .null, .null] .null := Arv.set Ar74 q74 S74 N74_ H74 G74 rfl W75 8 rfl (Nat.le_of_ble_eq_true rfl)
  have N76 := Fr.snoc X75 N69 o1
  have K77 : Keep h0 h75 [] := K70.wr W75 (Or.inr z1)
  have f78 : Sta Z h75 "com/example/apq/apq/jpql/Operator" "PLUS" "Lcom/example/apq/apq/jpql/Operator;" (.ref wPLUS) := ((((((((((P_S_Operator_PLUS.ext E1).wr W19).wr W26).wr W33).wr W40).wr W47).wr W54).wr W61).wr W68).wr W75)
  obtain ⟨T79, X79, e79, st79⟩ := getS2 X75 hx hZ hown (host := "") (Or.inl (hw _ (List.mem_of_getElem? (i := 22) rfl))) Via.refl e75 f78 (g := (mkF m 65 #[.val (.int p0), .unset, .unset, .unset] [(.int (9 : Int32)), (.ref b1), (.ref b1)])) rfl (hb hby at_65)
  have f80 : Exa Z h75 wPLUS "com/example/apq/apq/jpql/Operator" := ((((((((((P_E_wPLUS.ext E1).wr W19).wr W26).wr W33).wr W40).wr W47).wr W54).wr W61).wr W68).wr W75)
  obtain ⟨cl81, Ar81, q81, S81, N81_, H81, G81⟩ := V75
  have hin81 : ¬ ((9 : Int32) < 0 ∨ cl81.slots.size ≤ ((9 : Int32)).toNatClampNeg) := inb_of S81 ⟨by decide, by decide⟩
  obtain ⟨T82, h82, X82, e82, W82, st82⟩ := stR X79 hx hZ e79 Ar81 (j := (9 : Int32)) hin81 rfl (Sto.ofV Ar81 q81 O1 (Ins.self f80)) (g := (mkF m 68 #[.val (.int p0), .unset, .unset, .unset] [(.ref wPLUS), (.int (9 : Int32)), (.ref b1), (.ref b1)])) rfl rfl (hb hby at_68)
  have V82 : Arv Z h82 b1 k1 (.object "com/example/apq/apq/jpql/Operator") (13 : Int32) [(.ref wOR), (.ref wAND), (.ref wNOT), (.ref wEQUAL), (.ref wNOT_EQUAL), (.ref wLESS), (.ref wLESS_OR_EQUAL), (.ref wGREATER), (.ref wGREATER_OR_EQUAL), (.ref wPLUS), .null, .null, .null] .null := Arv.set Ar81 q81 S81 N81_ H81 G81 rfl W82 9 rfl (Nat.le_of_ble_eq_true rfl)
  have N83 := Fr.snoc X82 N76 o1
  have K84 : Keep h0 h82 [] := K77.wr W82 (Or.inr z1)
  have f85 : Sta Z h82 "com/example/apq/apq/jpql/Operator" "MINUS" "Lcom/example/apq/apq/jpql/Operator;" (.ref wMINUS) := (((((((((((P_S_Operator_MINUS.ext E1).wr W19).wr W26).wr W33).wr W40).wr W47).wr W54).wr W61).wr W68).wr W75).wr W82)
  obtain ⟨T86, X86, e86, st86⟩ := getS2 X82 hx hZ hown (host := "") (Or.inl (hw _ (List.mem_of_getElem? (i := 24) rfl))) Via.refl e82 f85 (g := (mkF m 72 #[.val (.int p0), .unset, .unset, .unset] [(.int (10 : Int32)), (.ref b1), (.ref b1)])) rfl (hb hby at_72)
  have f87 : Exa Z h82 wMINUS "com/example/apq/apq/jpql/Operator" := (((((((((((P_E_wMINUS.ext E1).wr W19).wr W26).wr W33).wr W40).wr W47).wr W54).wr W61).wr W68).wr W75).wr W82)
  obtain ⟨cl88, Ar88, q88, S88, N88_, H88, G88⟩ := V82
  have hin88 : ¬ ((10 : Int32) < 0 ∨ cl88.slots.size ≤ ((10 : Int32)).toNatClampNeg) := inb_of S88 ⟨by decide, by decide⟩
  obtain ⟨T89, h89, X89, e89, W89, st89⟩ := stR X86 hx hZ e86 Ar88 (j := (10 : Int32)) hin88 rfl (Sto.ofV Ar88 q88 O1 (Ins.self f87)) (g := (mkF m 75 #[.val (.int p0), .unset, .unset, .unset] [(.ref wMINUS), (.int (10 : Int32)), (.ref b1), (.ref b1)])) rfl rfl (hb hby at_75)
  have V89 : Arv Z h89 b1 k1 (.object "com/example/apq/apq/jpql/Operator") (13 : Int32) [(.ref wOR), (.ref wAND), (.ref wNOT), (.ref wEQUAL), (.ref wNOT_EQUAL), (.ref wLESS), (.ref wLESS_OR_EQUAL), (.ref wGREATER), (.ref wGREATER_OR_EQUAL), (.ref wPLUS), (.ref wMINUS), .null, .null] .null := Arv.set Ar88 q88 S88 N88_ H88 G88 rfl W89 10 rfl (Nat.le_of_ble_eq_true rfl)
  have N90 := Fr.snoc X89 N83 o1
  have K91 : Keep h0 h89 [] := K84.wr W89 (Or.inr z1)
  have f92 : Sta Z h89 "com/example/apq/apq/jpql/Operator" "TIMES" "Lcom/example/apq/apq/jpql/Operator;" (.ref wTIMES) := ((((((((((((P_S_Operator_TIMES.ext E1).wr W19).wr W26).wr W33).wr W40).wr W47).wr W54).wr W61).wr W68).wr W75).wr W82).wr W89)
  obtain ⟨T93, X93, e93, st93⟩ := getS2 X89 hx hZ hown (host := "") (Or.inl (hw _ (List.mem_of_getElem? (i := 26) rfl))) Via.refl e89 f92 (g := (mkF m 79 #[.val (.int p0), .unset, .unset, .unset] [(.int (11 : Int32)), (.ref b1), (.ref b1)])) rfl (hb hby at_79)
  have f94 : Exa Z h89 wTIMES "com/example/apq/apq/jpql/Operator" := ((((((((((((P_E_wTIMES.ext E1).wr W19).wr W26).wr W33).wr W40).wr W47).wr W54).wr W61).wr W68).wr W75).wr W82).wr W89)
  obtain ⟨cl95, Ar95, q95, S95, N95_, H95, G95⟩ := V89
  have hin95 : ¬ ((11 : Int32) < 0 ∨ cl95.slots.size ≤ ((11 : Int32)).toNatClampNeg) := inb_of S95 ⟨by decide, by decide⟩
  obtain ⟨T96, h96, X96, e96, W96, st96⟩ := stR X93 hx hZ e93 Ar95 (j := (11 : Int32)) hin95 rfl (Sto.ofV Ar95 q95 O1 (Ins.self f94)) (g := (mkF m 82 #[.val (.int p0), .unset, .unset, .unset] [(.ref wTIMES), (.int (11 : Int32)), (.ref b1), (.ref b1)])) rfl rfl (hb hby at_82)
  have V96 : Arv Z h96 b1 k1 (.object "com/example/apq/apq/jpql/Operator") (13 : Int32) [(.ref wOR), (.ref wAND), (.ref wNOT), (.ref wEQUAL), (.ref wNOT_EQUAL), (.ref wLESS), (.ref wLESS_OR_EQUAL), (.ref wGREATER), (.ref wGREATER_OR_EQUAL), (.ref wPLUS), (.ref wMINUS), (.ref wTIMES), .null] .null := Arv.set Ar95 q95 S95 N95_ H95 G95 rfl W96 11 rfl (Nat.le_of_ble_eq_true rfl)
  have N97 := Fr.snoc X96 N90 o1
  have K98 : Keep h0 h96 [] := K91.wr W96 (Or.inr z1)
  have f99 : Sta Z h96 "com/example/apq/apq/jpql/Operator" "DIVIDE" "Lcom/example/apq/apq/jpql/Operator;" (.ref wDIVIDE) := (((((((((((((P_S_Operator_DIVIDE.ext E1).wr W19).wr W26).wr W33).wr W40).wr W47).wr W54).wr W61).wr W68).wr W75).wr W82).wr W89).wr W96)
  obtain ⟨T100, X100, e100, st100⟩ := getS2 X96 hx hZ hown (host := "") (Or.inl (hw _ (List.mem_of_getElem? (i := 28) rfl))) Via.refl e96 f99 (g := (mkF m 86 #[.val (.int p0), .unset, .unset, .unset] [(.int (12 : Int32)), (.ref b1), (.ref b1)])) rfl (hb hby at_86)
  have f101 : Exa Z h96 wDIVIDE "com/example/apq/apq/jpql/Operator" := (((((((((((((P_E_wDIVIDE.ext E1).wr W19).wr W26).wr W33).wr W40).wr W47).wr W54).wr W61).wr W68).wr W75).wr W82).wr W89).wr W96)
  obtain ⟨cl102, Ar102, q102, S102, N102_, H102, G102⟩ := V96
  have hin102 : ¬ ((12 : Int32) < 0 ∨ cl102.slots.size ≤ ((12 : Int32)).toNatClampNeg) := inb_of S102 ⟨by decide, by decide⟩
  obtain ⟨T103, h103, X103, e103, W103, st103⟩ := stR X100 hx hZ e100 Ar102 (j := (12 : Int32)) hin102 rfl (Sto.ofV Ar102 q102 O1 (Ins.self f101)) (g := (mkF m 89 #[.val (.int p0), .unset, .unset, .unset] [(.ref wDIVIDE), (.int (12 : Int32)), (.ref b1), (.ref b1)])) rfl rfl (hb hby at_89)
  have V103 : Arv Z h103 b1 k1 (.object "com/example/apq/apq/jpql/Operator") (13 : Int32) [(.ref wOR), (.ref wAND), (.ref wNOT), (.ref wEQUAL), (.ref wNOT_EQUAL), (.ref wLESS), (.ref wLESS_OR_EQUAL), (.ref wGREATER), (.ref wGREATER_OR_EQUAL), (.ref wPLUS), (.ref wMINUS), (.ref wTIMES), (.ref wDIVIDE)] .null := Arv.set Ar102 q102 S102 N102_ H102 G102 rfl W103 12 rfl (Nat.le_of_ble_eq_true rfl)
  have N104 := Fr.snoc X103 N97 o1
  have K105 : Keep h0 h103 [] := K98.wr W103 (Or.inr z1)
  have pre106 : ∀ t, Steps p.tables e below (T103.setTop (mkF m 99 #[.val (.int p0), .val (.ref b1), .val (.int ((p0 &&& (2147483647 : Int32)) % (13 : Int32))), .unset] [])) t → Steps p.tables e below (s₁.setTop (entryFrame m #[(.int p0)] maxLocals)) t := fun t kt => pre0 t (by
      show Steps p.tables e below (s₁.setTop (mkF m 0 #[.val (.int p0), .unset, .unset, .unset] [])) _
      refine XS.bipush X0.here hx rfl (hb hby at_0) ?_
      show Steps p.tables e below (s₁.setTop (mkF m 2 #[.val (.int p0), .unset, .unset, .unset] [(.int (13 : Int32))])) _
      refine st1 _ ?_
      show Steps p.tables e below (T1.setTop (mkF m 5 #[.val (.int p0), .unset, .unset, .unset] [(.ref b1)])) _
      refine XS.dup X1.here hx rfl (hb hby at_5) rfl rfl ?_
      show Steps p.tables e below (T1.setTop (mkF m 6 #[.val (.int p0), .unset, .unset, .unset] [(.ref b1), (.ref b1)])) _
      refine XS.iconst X1.here hx rfl (hb hby at_6) ?_
      show Steps p.tables e below (T1.setTop (mkF m 7 #[.val (.int p0), .unset, .unset, .unset] [(.int (0 : Int32)), (.ref b1), (.ref b1)])) _
      refine st16 _ ?_
      show Steps p.tables e below (T16.setTop (mkF m 10 #[.val (.int p0), .unset, .unset, .unset] [(.ref wOR), (.int (0 : Int32)), (.ref b1), (.ref b1)])) _
      refine st19 _ ?_
      show Steps p.tables e below (T19.setTop (mkF m 11 #[.val (.int p0), .unset, .unset, .unset] [(.ref b1)])) _
      refine XS.dup X19.here hx rfl (hb hby at_11) rfl rfl ?_
      show Steps p.tables e below (T19.setTop (mkF m 12 #[.val (.int p0), .unset, .unset, .unset] [(.ref b1), (.ref b1)])) _
      refine XS.iconst X19.here hx rfl (hb hby at_12) ?_
      show Steps p.tables e below (T19.setTop (mkF m 13 #[.val (.int p0), .unset, .unset, .unset] [(.int (1 : Int32)), (.ref b1), (.ref b1)])) _
      refine st23 _ ?_
      show Steps p.tables e below (T23.setTop (mkF m 16 #[.val (.int p0), .unset, .unset, .unset] [(.ref wAND), (.int (1 : Int32)), (.ref b1), (.ref b1)])) _
      refine st26 _ ?_
      show Steps p.tables e below (T26.setTop (mkF m 17 #[.val (.int p0), .unset, .unset, .unset] [(.ref b1)])) _
      refine XS.dup X26.here hx rfl (hb hby at_17) rfl rfl ?_
      show Steps p.tables e below (T26.setTop (mkF m 18 #[.val (.int p0), .unset, .unset, .unset] [(.ref b1), (.ref b1)])) _
      refine XS.iconst X26.here hx rfl (hb hby at_18) ?_
      show Steps p.tables e below (T26.setTop (mkF m 19 #[.val (.int p0), .unset, .unset, .unset] [(.int (2 : Int32)), (.ref b1), (.ref b1)])) _
      refine st30 _ ?_
      show Steps p.tables e below (T30.setTop (mkF m 22 #[.val (.int p0), .unset, .unset, .unset] [(.ref wNOT), (.int (2 : Int32)), (.ref b1), (.ref b1)])) _
      refine st33 _ ?_
      show Steps p.tables e below (T33.setTop (mkF m 23 #[.val (.int p0), .unset, .unset, .unset] [(.ref b1)])) _
      refine XS.dup X33.here hx rfl (hb hby at_23) rfl rfl ?_
      show Steps p.tables e below (T33.setTop (mkF m 24 #[.val (.int p0), .unset, .unset, .unset] [(.ref b1), (.ref b1)])) _
      refine XS.iconst X33.here hx rfl (hb hby at_24) ?_
      show Steps p.tables e below (T33.setTop (mkF m 25 #[.val (.int p0), .unset, .unset, .unset] [(.int (3 : Int32)), (.ref b1), (.ref b1)])) _
      refine st37 _ ?_
      show Steps p.tables e below (T37.setTop (mkF m 28 #[.val (.int p0), .unset, .unset, .unset] [(.ref wEQUAL), (.int (3 : Int32)), (.ref b1), (.ref b1)])) _
      refine st40 _ ?_
      show Steps p.tables e below (T40.setTop (mkF m 29 #[.val (.int p0), .unset, .unset, .unset] [(.ref b1)])) _
      refine XS.dup X40.here hx rfl (hb hby at_29) rfl rfl ?_
      show Steps p.tables e below (T40.setTop (mkF m 30 #[.val (.int p0), .unset, .unset, .unset] [(.ref b1), (.ref b1)])) _
      refine XS.iconst X40.here hx rfl (hb hby at_30) ?_
      show Steps p.tables e below (T40.setTop (mkF m 31 #[.val (.int p0), .unset, .unset, .unset] [(.int (4 : Int32)), (.ref b1), (.ref b1)])) _
      refine st44 _ ?_
      show Steps p.tables e below (T44.setTop (mkF m 34 #[.val (.int p0), .unset, .unset, .unset] [(.ref wNOT_EQUAL), (.int (4 : Int32)), (.ref b1), (.ref b1)])) _
      refine st47 _ ?_
      show Steps p.tables e below (T47.setTop (mkF m 35 #[.val (.int p0), .unset, .unset, .unset] [(.ref b1)])) _
      refine XS.dup X47.here hx rfl (hb hby at_35) rfl rfl ?_
      show Steps p.tables e below (T47.setTop (mkF m 36 #[.val (.int p0), .unset, .unset, .unset] [(.ref b1), (.ref b1)])) _
      refine XS.iconst X47.here hx rfl (hb hby at_36) ?_
      show Steps p.tables e below (T47.setTop (mkF m 37 #[.val (.int p0), .unset, .unset, .unset] [(.int (5 : Int32)), (.ref b1), (.ref b1)])) _
      refine st51 _ ?_
      show Steps p.tables e below (T51.setTop (mkF m 40 #[.val (.int p0), .unset, .unset, .unset] [(.ref wLESS), (.int (5 : Int32)), (.ref b1), (.ref b1)])) _
      refine st54 _ ?_
      show Steps p.tables e below (T54.setTop (mkF m 41 #[.val (.int p0), .unset, .unset, .unset] [(.ref b1)])) _
      refine XS.dup X54.here hx rfl (hb hby at_41) rfl rfl ?_
      show Steps p.tables e below (T54.setTop (mkF m 42 #[.val (.int p0), .unset, .unset, .unset] [(.ref b1), (.ref b1)])) _
      refine XS.bipush X54.here hx rfl (hb hby at_42) ?_
      show Steps p.tables e below (T54.setTop (mkF m 44 #[.val (.int p0), .unset, .unset, .unset] [(.int (6 : Int32)), (.ref b1), (.ref b1)])) _
      refine st58 _ ?_
      show Steps p.tables e below (T58.setTop (mkF m 47 #[.val (.int p0), .unset, .unset, .unset] [(.ref wLESS_OR_EQUAL), (.int (6 : Int32)), (.ref b1), (.ref b1)])) _
      refine st61 _ ?_
      show Steps p.tables e below (T61.setTop (mkF m 48 #[.val (.int p0), .unset, .unset, .unset] [(.ref b1)])) _
      refine XS.dup X61.here hx rfl (hb hby at_48) rfl rfl ?_
      show Steps p.tables e below (T61.setTop (mkF m 49 #[.val (.int p0), .unset, .unset, .unset] [(.ref b1), (.ref b1)])) _
      refine XS.bipush X61.here hx rfl (hb hby at_49) ?_
      show Steps p.tables e below (T61.setTop (mkF m 51 #[.val (.int p0), .unset, .unset, .unset] [(.int (7 : Int32)), (.ref b1), (.ref b1)])) _
      refine st65 _ ?_
      show Steps p.tables e below (T65.setTop (mkF m 54 #[.val (.int p0), .unset, .unset, .unset] [(.ref wGREATER), (.int (7 : Int32)), (.ref b1), (.ref b1)])) _
      refine st68 _ ?_
      show Steps p.tables e below (T68.setTop (mkF m 55 #[.val (.int p0), .unset, .unset, .unset] [(.ref b1)])) _
      refine XS.dup X68.here hx rfl (hb hby at_55) rfl rfl ?_
      show Steps p.tables e below (T68.setTop (mkF m 56 #[.val (.int p0), .unset, .unset, .unset] [(.ref b1), (.ref b1)])) _
      refine XS.bipush X68.here hx rfl (hb hby at_56) ?_
      show Steps p.tables e below (T68.setTop (mkF m 58 #[.val (.int p0), .unset, .unset, .unset] [(.int (8 : Int32)), (.ref b1), (.ref b1)])) _
      refine st72 _ ?_
      show Steps p.tables e below (T72.setTop (mkF m 61 #[.val (.int p0), .unset, .unset, .unset] [(.ref wGREATER_OR_EQUAL), (.int (8 : Int32)), (.ref b1), (.ref b1)])) _
      refine st75 _ ?_
      show Steps p.tables e below (T75.setTop (mkF m 62 #[.val (.int p0), .unset, .unset, .unset] [(.ref b1)])) _
      refine XS.dup X75.here hx rfl (hb hby at_62) rfl rfl ?_
      show Steps p.tables e below (T75.setTop (mkF m 63 #[.val (.int p0), .unset, .unset, .unset] [(.ref b1), (.ref b1)])) _
      refine XS.bipush X75.here hx rfl (hb hby at_63) ?_
      show Steps p.tables e below (T75.setTop (mkF m 65 #[.val (.int p0), .unset, .unset, .unset] [(.int (9 : Int32)), (.ref b1), (.ref b1)])) _
      refine st79 _ ?_
      show Steps p.tables e below (T79.setTop (mkF m 68 #[.val (.int p0), .unset, .unset, .unset] [(.ref wPLUS), (.int (9 : Int32)), (.ref b1), (.ref b1)])) _
      refine st82 _ ?_
      show Steps p.tables e below (T82.setTop (mkF m 69 #[.val (.int p0), .unset, .unset, .unset] [(.ref b1)])) _
      refine XS.dup X82.here hx rfl (hb hby at_69) rfl rfl ?_
      show Steps p.tables e below (T82.setTop (mkF m 70 #[.val (.int p0), .unset, .unset, .unset] [(.ref b1), (.ref b1)])) _
      refine XS.bipush X82.here hx rfl (hb hby at_70) ?_
      show Steps p.tables e below (T82.setTop (mkF m 72 #[.val (.int p0), .unset, .unset, .unset] [(.int (10 : Int32)), (.ref b1), (.ref b1)])) _
      refine st86 _ ?_
      show Steps p.tables e below (T86.setTop (mkF m 75 #[.val (.int p0), .unset, .unset, .unset] [(.ref wMINUS), (.int (10 : Int32)), (.ref b1), (.ref b1)])) _
      refine st89 _ ?_
      show Steps p.tables e below (T89.setTop (mkF m 76 #[.val (.int p0), .unset, .unset, .unset] [(.ref b1)])) _
      refine XS.dup X89.here hx rfl (hb hby at_76) rfl rfl ?_
      show Steps p.tables e below (T89.setTop (mkF m 77 #[.val (.int p0), .unset, .unset, .unset] [(.ref b1), (.ref b1)])) _
      refine XS.bipush X89.here hx rfl (hb hby at_77) ?_
      show Steps p.tables e below (T89.setTop (mkF m 79 #[.val (.int p0), .unset, .unset, .unset] [(.int (11 : Int32)), (.ref b1), (.ref b1)])) _
      refine st93 _ ?_
      show Steps p.tables e below (T93.setTop (mkF m 82 #[.val (.int p0), .unset, .unset, .unset] [(.ref wTIMES), (.int (11 : Int32)), (.ref b1), (.ref b1)])) _
      refine st96 _ ?_
      show Steps p.tables e below (T96.setTop (mkF m 83 #[.val (.int p0), .unset, .unset, .unset] [(.ref b1)])) _
      refine XS.dup X96.here hx rfl (hb hby at_83) rfl rfl ?_
      show Steps p.tables e below (T96.setTop (mkF m 84 #[.val (.int p0), .unset, .unset, .unset] [(.ref b1), (.ref b1)])) _
      refine XS.bipush X96.here hx rfl (hb hby at_84) ?_
      show Steps p.tables e below (T96.setTop (mkF m 86 #[.val (.int p0), .unset, .unset, .unset] [(.int (12 : Int32)), (.ref b1), (.ref b1)])) _
      refine st100 _ ?_
      show Steps p.tables e below (T100.setTop (mkF m 89 #[.val (.int p0), .unset, .unset, .unset] [(.ref wDIVIDE), (.int (12 : Int32)), (.ref b1), (.ref b1)])) _
      refine st103 _ ?_
      show Steps p.tables e below (T103.setTop (mkF m 90 #[.val (.int p0), .unset, .unset, .unset] [(.ref b1)])) _
      refine XS.astoreN X103.here hx rfl (hb hby at_90) rfl rfl (l' := #[.val (.int p0), .val (.ref b1), .unset, .unset]) rfl ?_
      show Steps p.tables e below (T103.setTop (mkF m 91 #[.val (.int p0), .val (.ref b1), .unset, .unset] [])) _
      refine XS.iloadN X103.here hx rfl (hb hby at_91) rfl ?_
      show Steps p.tables e below (T103.setTop (mkF m 92 #[.val (.int p0), .val (.ref b1), .unset, .unset] [(.int p0)])) _
      refine X103.ldcInt hx hown (mvT hZ (hw _ (List.mem_of_getElem? (i := 30) rfl))) (g := (mkF m 92 #[.val (.int p0), .val (.ref b1), .unset, .unset] [(.int p0)])) rfl (hb hby at_92) _ ?_
      show Steps p.tables e below (T103.setTop (mkF m 94 #[.val (.int p0), .val (.ref b1), .unset, .unset] [(.int (2147483647 : Int32)), (.int p0)])) _
      refine XS.iand X103.here hx rfl (hb hby at_94) rfl ?_
      show Steps p.tables e below (T103.setTop (mkF m 95 #[.val (.int p0), .val (.ref b1), .unset, .unset] [(.int (p0 &&& (2147483647 : Int32)))])) _
      refine XS.bipush X103.here hx rfl (hb hby at_95) ?_
      show Steps p.tables e below (T103.setTop (mkF m 97 #[.val (.int p0), .val (.ref b1), .unset, .unset] [(.int (13 : Int32)), (.int (p0 &&& (2147483647 : Int32)))])) _
      refine iremM X103 hx rfl (hb hby at_97) rfl (by decide : ¬ ((13 : Int32) = (0 : Int32))) ?_
      show Steps p.tables e below (T103.setTop (mkF m 98 #[.val (.int p0), .val (.ref b1), .unset, .unset] [(.int ((p0 &&& (2147483647 : Int32)) % (13 : Int32)))])) _
      refine XS.istoreN X103.here hx rfl (hb hby at_98) rfl (l' := #[.val (.int p0), .val (.ref b1), .val (.int ((p0 &&& (2147483647 : Int32)) % (13 : Int32))), .unset]) rfl ?_
      exact kt)
  rcases own_mod13 p0 with hi | hi | hi | hi | hi | hi | hi | hi | hi | hi | hi | hi | hi
  · rw [hi] at pre106
    obtain ⟨cl107, Ar107, q107, S107, N107_, H107, G107⟩ := V103
    have hin107 : ¬ ((0 : Int32) < 0 ∨ cl107.slots.size ≤ ((0 : Int32)).toNatClampNeg) := inb_of S107 ⟨by decide, by decide⟩
    have hat107 : cl107.slots[((0 : Int32)).toNatClampNeg]? = some (.ref wOR) := H107.at hin107 rfl
    have f108 : Fld Z h103 wOR "com/example/apq/apq/jpql/Operator" "kind" "Lcom/example/apq/apq/jpql/Operator$Kind;" (.ref kLOGICAL) := ((((((((((((((P_F_wOR_Operator_kind.ext E1).other W19 (Or.inl ne2)).other W26 (Or.inl ne2)).other W33 (Or.inl ne2)).other W40 (Or.inl ne2)).other W47 (Or.inl ne2)).other W54 (Or.inl ne2)).other W61 (Or.inl ne2)).other W68 (Or.inl ne2)).other W75 (Or.inl ne2)).other W82 (Or.inl ne2)).other W89 (Or.inl ne2)).other W96 (Or.inl ne2)).other W103 (Or.inl ne2))
    have f109 : Sta Z h103 "com/example/apq/apq/jpql/Operator$Kind" "EQUALITY" "Lcom/example/apq/apq/jpql/Operator$Kind;" (.ref kEQUALITY) := ((((((((((((((P_S_Operator_Kind_EQUALITY.ext E1).wr W19).wr W26).wr W33).wr W40).wr W47).wr W54).wr W61).wr W68).wr W75).wr W82).wr W89).wr W96).wr W103)
    have f110 : Sta Z h103 "com/example/apq/apq/jpql/Operator$Kind" "ORDERING" "Lcom/example/apq/apq/jpql/Operator$Kind;" (.ref kORDERING) := ((((((((((((((P_S_Operator_Kind_ORDERING.ext E1).wr W19).wr W26).wr W33).wr W40).wr W47).wr W54).wr W61).wr W68).wr W75).wr W82).wr W89).wr W96).wr W103)
    have f111 : n0 ≤ h103.size := (Nat.le_trans (Nat.le_trans (Nat.le_trans (Nat.le_trans (Nat.le_trans (Nat.le_trans (Nat.le_trans (Nat.le_trans (Nat.le_trans (Nat.le_trans (Nat.le_trans (Nat.le_trans (Nat.le_trans (Nat.le_trans Z0 E1.1) (Keep.of_wr W19).1) (Keep.of_wr W26).1) (Keep.of_wr W33).1) (Keep.of_wr W40).1) (Keep.of_wr W47).1) (Keep.of_wr W54).1) (Keep.of_wr W61).1) (Keep.of_wr W68).1) (Keep.of_wr W75).1) (Keep.of_wr W82).1) (Keep.of_wr W89).1) (Keep.of_wr W96).1) (Keep.of_wr W103).1)
    have f113 : Exa Z h103 wOR "com/example/apq/apq/jpql/Operator" := (((((((((((((f17.wr W19).wr W26).wr W33).wr W40).wr W47).wr W54).wr W61).wr W68).wr W75).wr W82).wr W89).wr W96).wr W103)
    obtain ⟨cq114, kq114, q114a, q114b, q114c⟩ := isOf hZ e103 f113
    obtain ⟨_, _, ⟨T112, L112, k112, n112⟩, -, X112, ⟨Lc112, hQ112, l112, y112, z112⟩, st112⟩ := X103.virtualBack hx (y := (⟨"com/example/apq/apq/jpql/Operator", "compares", "()Z"⟩ : MethodName)) (z := (⟨"com/example/apq/apq/jpql/Operator", "compares", "()Z"⟩ : MethodName)) hown (mvT hZ (hw _ (List.mem_of_getElem? (i := 31) rfl))) (mvT hZ (hw _ (List.mem_of_getElem? (i := 32) rfl))) (notFace_of_selects (args := #[]) (mvT hZ (hw _ (List.mem_of_getElem? (i := 34) rfl)))) (mvT hZ (hw _ (List.mem_of_getElem? (i := 34) rfl))) (mvT hZ (hw _ (List.mem_of_getElem? (i := 33) rfl))) (by decide) (backOf (W := 0) (rmX l Z a0 hw [] wOR kLOGICAL kEQUALITY kORDERING h103 n0 f111 f108 f109 f110 ne_LOGICAL_EQUALITY ne_LOGICAL_ORDERING) hZ (hw _ (List.mem_of_getElem? (i := 35) rfl)) (hw _ (List.mem_of_getElem? (i := 3) rfl)) (by decide) (by decide)) q114a q114c (g := (mkF m 119 #[.val (.int p0), .val (.ref b1), .val (.int (0 : Int32)), .val (.int (0 : Int32))] [(.ref wOR)])) rfl (by rw [hml]; rfl) (Steps.refl _) (argsL := []) (rest := []) (lenOf pd___Z rfl) rfl (by show 2 * 0 + _ ≤ _; exact Nat.le_of_eq rfl) (hb hby at_119) (fun _ _ => ⟨rfl, e103, (by decide : 1 + 0 ≤ _), (by decide : 13 + 0 ≤ _)⟩)
    dsimp only [Pt.U, Pt.locs, Pt.cells, Pt.slots] at X112 l112 y112 z112 st112 hQ112
    subst l112 y112 z112
    obtain ⟨rfl, N112q, e112⟩ := hQ112
    have N112 := Fr.app N104 N112q
    obtain ⟨fs, hr, hrun, hended, hW, hsame⟩ := X112.leave (v := some (.int (1 : Int32))) (fun h => by rw [Bd.returns] at h; cases h)
    refine ⟨_, _, pre106 _ ?_, hrun, hended, _, _, rfl, ?_, ⟨_, rfl⟩, hW, hsame.mono (by decide) (by decide)⟩
    · show Steps p.tables e below (T103.setTop (mkF m 99 #[.val (.int p0), .val (.ref b1), .val (.int (0 : Int32)), .unset] [])) _
      refine XS.iloadN X103.here hx rfl (hb hby at_99) rfl ?_
      show Steps p.tables e below (T103.setTop (mkF m 100 #[.val (.int p0), .val (.ref b1), .val (.int (0 : Int32)), .unset] [(.int (0 : Int32))])) _
      refine XS.iconst X103.here hx rfl (hb hby at_100) ?_
      show Steps p.tables e below (T103.setTop (mkF m 101 #[.val (.int p0), .val (.ref b1), .val (.int (0 : Int32)), .unset] [(.int (3 : Int32)), (.int (0 : Int32))])) _
      refine XS.icmpYes X103.here hx rfl (pc0 := 101) (pc' := 114) rfl (hb hby at_101) rfl (tlt (by decide : (0 : Int32) < (3 : Int32))).1 (by decide) (by decide) ?_
      show Steps p.tables e below (T103.setTop (mkF m 114 #[.val (.int p0), .val (.ref b1), .val (.int (0 : Int32)), .unset] [])) _
      refine XS.iconst X103.here hx rfl (hb hby at_114) ?_
      show Steps p.tables e below (T103.setTop (mkF m 115 #[.val (.int p0), .val (.ref b1), .val (.int (0 : Int32)), .unset] [(.int (0 : Int32))])) _
      refine XS.istoreN X103.here hx rfl (hb hby at_115) rfl (l' := #[.val (.int p0), .val (.ref b1), .val (.int (0 : Int32)), .val (.int (0 : Int32))]) rfl ?_
      show Steps p.tables e below (T103.setTop (mkF m 116 #[.val (.int p0), .val (.ref b1), .val (.int (0 : Int32)), .val (.int (0 : Int32))] [])) _
      refine XS.aloadN X103.here hx rfl (hb hby at_116) rfl rfl ?_
      show Steps p.tables e below (T103.setTop (mkF m 117 #[.val (.int p0), .val (.ref b1), .val (.int (0 : Int32)), .val (.int (0 : Int32))] [(.ref b1)])) _
      refine XS.iloadN X103.here hx rfl (hb hby at_117) rfl ?_
      show Steps p.tables e below (T103.setTop (mkF m 118 #[.val (.int p0), .val (.ref b1), .val (.int (0 : Int32)), .val (.int (0 : Int32))] [(.int (0 : Int32)), (.ref b1)])) _
      refine X103.aaload hx (j := (0 : Int32)) (v := (.ref wOR)) (by rw [e103]; exact Ar107.1) (State.isArrayOf_alike hZ.alike Ar107.2.1) rfl Ar107.2.2 hin107 hat107 (g := (mkF m 118 #[.val (.int p0), .val (.ref b1), .val (.int (0 : Int32)), .val (.int (0 : Int32))] [(.int (0 : Int32)), (.ref b1)])) rfl rfl (hb hby at_118) _ ?_
      show Steps p.tables e below (T103.setTop (mkF m 119 #[.val (.int p0), .val (.ref b1), .val (.int (0 : Int32)), .val (.int (0 : Int32))] [(.ref wOR)])) _
      refine st112.trans ?_
      show Steps p.tables e below (T112.setTop (mkF m 122 #[.val (.int p0), .val (.ref b1), .val (.int (0 : Int32)), .val (.int (0 : Int32))] [(.int (0 : Int32))])) _
      refine XS.iloadN X112.here hx rfl (hb hby at_122) rfl ?_
      show Steps p.tables e below (T112.setTop (mkF m 123 #[.val (.int p0), .val (.ref b1), .val (.int (0 : Int32)), .val (.int (0 : Int32))] [(.int (0 : Int32)), (.int (0 : Int32))])) _
      refine XS.icmpNo X112.here hx rfl (hb hby at_123) rfl (teq (by decide : (0 : Int32) = (0 : Int32))).2 ?_
      show Steps p.tables e below (T112.setTop (mkF m 126 #[.val (.int p0), .val (.ref b1), .val (.int (0 : Int32)), .val (.int (0 : Int32))] [])) _
      refine XS.iconst X112.here hx rfl (hb hby at_126) ?_
      show Steps p.tables e below (T112.setTop (mkF m 127 #[.val (.int p0), .val (.ref b1), .val (.int (0 : Int32)), .val (.int (0 : Int32))] [(.int (1 : Int32))])) _
      refine XS.goto X112.here hx rfl (pc0 := 127) (pc' := 131) rfl (hb hby at_127) (by decide) (by decide) ?_
      show Steps p.tables e below (T112.setTop (mkF m 131 #[.val (.int p0), .val (.ref b1), .val (.int (0 : Int32)), .val (.int (0 : Int32))] [(.int (1 : Int32))])) _
      exact retN X112 hx (t := .boolean) Bd.returns (by simp) (hb hby at_131) hr
    · show own_Q0 n0 _ T112.heap _
      rw [e112]
      exact ⟨rfl, N112⟩
  · rw [hi] at pre106
    obtain ⟨cl115, Ar115, q115, S115, N115_, H115, G115⟩ := V103
    have hin115 : ¬ ((1 : Int32) < 0 ∨ cl115.slots.size ≤ ((1 : Int32)).toNatClampNeg) := inb_of S115 ⟨by decide, by decide⟩
    have hat115 : cl115.slots[((1 : Int32)).toNatClampNeg]? = some (.ref wAND) := H115.at hin115 rfl
    have f116 : Fld Z h103 wAND "com/example/apq/apq/jpql/Operator" "kind" "Lcom/example/apq/apq/jpql/Operator$Kind;" (.ref kLOGICAL) := ((((((((((((((P_F_wAND_Operator_kind.ext E1).other W19 (Or.inl ne3)).other W26 (Or.inl ne3)).other W33 (Or.inl ne3)).other W40 (Or.inl ne3)).other W47 (Or.inl ne3)).other W54 (Or.inl ne3)).other W61 (Or.inl ne3)).other W68 (Or.inl ne3)).other W75 (Or.inl ne3)).other W82 (Or.inl ne3)).other W89 (Or.inl ne3)).other W96 (Or.inl ne3)).other W103 (Or.inl ne3))
    have f117 : Sta Z h103 "com/example/apq/apq/jpql/Operator$Kind" "EQUALITY" "Lcom/example/apq/apq/jpql/Operator$Kind;" (.ref kEQUALITY) := ((((((((((((((P_S_Operator_Kind_EQUALITY.ext E1).wr W19).wr W26).wr W33).wr W40).wr W47).wr W54).wr W61).wr W68).wr W75).wr W82).wr W89).wr W96).wr W103)
    have f118 : Sta Z h103 "com/example/apq/apq/jpql/Operator$Kind" "ORDERING" "Lcom/example/apq/apq/jpql/Operator$Kind;" (.ref kORDERING) := ((((((((((((((P_S_Operator_Kind_ORDERING.ext E1).wr W19).wr W26).wr W33).wr W40).wr W47).wr W54).wr W61).wr W68).wr W75).wr W82).wr W89).wr W96).wr W103)
    have f119 : n0 ≤ h103.size := (Nat.le_trans (Nat.le_trans (Nat.le_trans (Nat.le_trans (Nat.le_trans (Nat.le_trans (Nat.le_trans (Nat.le_trans (Nat.le_trans (Nat.le_trans (Nat.le_trans (Nat.le_trans (Nat.le_trans (Nat.le_trans Z0 E1.1) (Keep.of_wr W19).1) (Keep.of_wr W26).1) (Keep.of_wr W33).1) (Keep.of_wr W40).1) (Keep.of_wr W47).1) (Keep.of_wr W54).1) (Keep.of_wr W61).1) (Keep.of_wr W68).1) (Keep.of_wr W75).1) (Keep.of_wr W82).1) (Keep.of_wr W89).1) (Keep.of_wr W96).1) (Keep.of_wr W103).1)
    have f121 : Exa Z h103 wAND "com/example/apq/apq/jpql/Operator" := ((((((((((((f24.wr W26).wr W33).wr W40).wr W47).wr W54).wr W61).wr W68).wr W75).wr W82).wr W89).wr W96).wr W103)
    obtain ⟨cq122, kq122, q122a, q122b, q122c⟩ := isOf hZ e103 f121
    obtain ⟨_, _, ⟨T120, L120, k120, n120⟩, -, X120, ⟨Lc120, hQ120, l120, y120, z120⟩, st120⟩ := X103.virtualBack hx (y := (⟨"com/example/apq/apq/jpql/Operator", "compares", "()Z"⟩ : MethodName)) (z := (⟨"com/example/apq/apq/jpql/Operator", "compares", "()Z"⟩ : MethodName)) hown (mvT hZ (hw _ (List.mem_of_getElem? (i := 31) rfl))) (mvT hZ (hw _ (List.mem_of_getElem? (i := 32) rfl))) (notFace_of_selects (args := #[]) (mvT hZ (hw _ (List.mem_of_getElem? (i := 34) rfl)))) (mvT hZ (hw _ (List.mem_of_getElem? (i := 34) rfl))) (mvT hZ (hw _ (List.mem_of_getElem? (i := 33) rfl))) (by decide) (backOf (W := 0) (rmX l Z a0 hw [] wAND kLOGICAL kEQUALITY kORDERING h103 n0 f119 f116 f117 f118 ne_LOGICAL_EQUALITY ne_LOGICAL_ORDERING) hZ (hw _ (List.mem_of_getElem? (i := 35) rfl)) (hw _ (List.mem_of_getElem? (i := 3) rfl)) (by decide) (by decide)) q122a q122c (g := (mkF m 119 #[.val (.int p0), .val (.ref b1), .val (.int (1 : Int32)), .val (.int (0 : Int32))] [(.ref wAND)])) rfl (by rw [hml]; rfl) (Steps.refl _) (argsL := []) (rest := []) (lenOf pd___Z rfl) rfl (by show 2 * 0 + _ ≤ _; exact Nat.le_of_eq rfl) (hb hby at_119) (fun _ _ => ⟨rfl, e103, (by decide : 1 + 0 ≤ _), (by decide : 13 + 0 ≤ _)⟩)
    dsimp only [Pt.U, Pt.locs, Pt.cells, Pt.slots] at X120 l120 y120 z120 st120 hQ120
    subst l120 y120 z120
    obtain ⟨rfl, N120q, e120⟩ := hQ120
    have N120 := Fr.app N104 N120q
    obtain ⟨fs, hr, hrun, hended, hW, hsame⟩ := X120.leave (v := some (.int (1 : Int32))) (fun h => by rw [Bd.returns] at h; cases h)
    refine ⟨_, _, pre106 _ ?_, hrun, hended, _, _, rfl, ?_, ⟨_, rfl⟩, hW, hsame.mono (by decide) (by decide)⟩
    · show Steps p.tables e below (T103.setTop (mkF m 99 #[.val (.int p0), .val (.ref b1), .val (.int (1 : Int32)), .unset] [])) _
      refine XS.iloadN X103.here hx rfl (hb hby at_99) rfl ?_
      show Steps p.tables e below (T103.setTop (mkF m 100 #[.val (.int p0), .val (.ref b1), .val (.int (1 : Int32)), .unset] [(.int (1 : Int32))])) _
      refine XS.iconst X103.here hx rfl (hb hby at_100) ?_
      show Steps p.tables e below (T103.setTop (mkF m 101 #[.val (.int p0), .val (.ref b1), .val (.int (1 : Int32)), .unset] [(.int (3 : Int32)), (.int (1 : Int32))])) _
      refine XS.icmpYes X103.here hx rfl (pc0 := 101) (pc' := 114) rfl (hb hby at_101) rfl (tlt (by decide : (1 : Int32) < (3 : Int32))).1 (by decide) (by decide) ?_
      show Steps p.tables e below (T103.setTop (mkF m 114 #[.val (.int p0), .val (.ref b1), .val (.int (1 : Int32)), .unset] [])) _
      refine XS.iconst X103.here hx rfl (hb hby at_114) ?_
      show Steps p.tables e below (T103.setTop (mkF m 115 #[.val (.int p0), .val (.ref b1), .val (.int (1 : Int32)), .unset] [(.int (0 : Int32))])) _
      refine XS.istoreN X103.here hx rfl (hb hby at_115) rfl (l' := #[.val (.int p0), .val (.ref b1), .val (.int (1 : Int32)), .val (.int (0 : Int32))]) rfl ?_
      show Steps p.tables e below (T103.setTop (mkF m 116 #[.val (.int p0), .val (.ref b1), .val (.int (1 : Int32)), .val (.int (0 : Int32))] [])) _
      refine XS.aloadN X103.here hx rfl (hb hby at_116) rfl rfl ?_
      show Steps p.tables e below (T103.setTop (mkF m 117 #[.val (.int p0), .val (.ref b1), .val (.int (1 : Int32)), .val (.int (0 : Int32))] [(.ref b1)])) _
      refine XS.iloadN X103.here hx rfl (hb hby at_117) rfl ?_
      show Steps p.tables e below (T103.setTop (mkF m 118 #[.val (.int p0), .val (.ref b1), .val (.int (1 : Int32)), .val (.int (0 : Int32))] [(.int (1 : Int32)), (.ref b1)])) _
      refine X103.aaload hx (j := (1 : Int32)) (v := (.ref wAND)) (by rw [e103]; exact Ar115.1) (State.isArrayOf_alike hZ.alike Ar115.2.1) rfl Ar115.2.2 hin115 hat115 (g := (mkF m 118 #[.val (.int p0), .val (.ref b1), .val (.int (1 : Int32)), .val (.int (0 : Int32))] [(.int (1 : Int32)), (.ref b1)])) rfl rfl (hb hby at_118) _ ?_
      show Steps p.tables e below (T103.setTop (mkF m 119 #[.val (.int p0), .val (.ref b1), .val (.int (1 : Int32)), .val (.int (0 : Int32))] [(.ref wAND)])) _
      refine st120.trans ?_
      show Steps p.tables e below (T120.setTop (mkF m 122 #[.val (.int p0), .val (.ref b1), .val (.int (1 : Int32)), .val (.int (0 : Int32))] [(.int (0 : Int32))])) _
      refine XS.iloadN X120.here hx rfl (hb hby at_122) rfl ?_
      show Steps p.tables e below (T120.setTop (mkF m 123 #[.val (.int p0), .val (.ref b1), .val (.int (1 : Int32)), .val (.int (0 : Int32))] [(.int (0 : Int32)), (.int (0 : Int32))])) _
      refine XS.icmpNo X120.here hx rfl (hb hby at_123) rfl (teq (by decide : (0 : Int32) = (0 : Int32))).2 ?_
      show Steps p.tables e below (T120.setTop (mkF m 126 #[.val (.int p0), .val (.ref b1), .val (.int (1 : Int32)), .val (.int (0 : Int32))] [])) _
      refine XS.iconst X120.here hx rfl (hb hby at_126) ?_
      show Steps p.tables e below (T120.setTop (mkF m 127 #[.val (.int p0), .val (.ref b1), .val (.int (1 : Int32)), .val (.int (0 : Int32))] [(.int (1 : Int32))])) _
      refine XS.goto X120.here hx rfl (pc0 := 127) (pc' := 131) rfl (hb hby at_127) (by decide) (by decide) ?_
      show Steps p.tables e below (T120.setTop (mkF m 131 #[.val (.int p0), .val (.ref b1), .val (.int (1 : Int32)), .val (.int (0 : Int32))] [(.int (1 : Int32))])) _
      exact retN X120 hx (t := .boolean) Bd.returns (by simp) (hb hby at_131) hr
    · show own_Q0 n0 _ T120.heap _
      rw [e120]
      exact ⟨rfl, N120⟩
  · rw [hi] at pre106
    obtain ⟨cl123, Ar123, q123, S123, N123_, H123, G123⟩ := V103
    have hin123 : ¬ ((2 : Int32) < 0 ∨ cl123.slots.size ≤ ((2 : Int32)).toNatClampNeg) := inb_of S123 ⟨by decide, by decide⟩
    have hat123 : cl123.slots[((2 : Int32)).toNatClampNeg]? = some (.ref wNOT) := H123.at hin123 rfl
    have f124 : Fld Z h103 wNOT "com/example/apq/apq/jpql/Operator" "kind" "Lcom/example/apq/apq/jpql/Operator$Kind;" (.ref kLOGICAL) := ((((((((((((((P_F_wNOT_Operator_kind.ext E1).other W19 (Or.inl ne4)).other W26 (Or.inl ne4)).other W33 (Or.inl ne4)).other W40 (Or.inl ne4)).other W47 (Or.inl ne4)).other W54 (Or.inl ne4)).other W61 (Or.inl ne4)).other W68 (Or.inl ne4)).other W75 (Or.inl ne4)).other W82 (Or.inl ne4)).other W89 (Or.inl ne4)).other W96 (Or.inl ne4)).other W103 (Or.inl ne4))
    have f125 : Sta Z h103 "com/example/apq/apq/jpql/Operator$Kind" "EQUALITY" "Lcom/example/apq/apq/jpql/Operator$Kind;" (.ref kEQUALITY) := ((((((((((((((P_S_Operator_Kind_EQUALITY.ext E1).wr W19).wr W26).wr W33).wr W40).wr W47).wr W54).wr W61).wr W68).wr W75).wr W82).wr W89).wr W96).wr W103)
    have f126 : Sta Z h103 "com/example/apq/apq/jpql/Operator$Kind" "ORDERING" "Lcom/example/apq/apq/jpql/Operator$Kind;" (.ref kORDERING) := ((((((((((((((P_S_Operator_Kind_ORDERING.ext E1).wr W19).wr W26).wr W33).wr W40).wr W47).wr W54).wr W61).wr W68).wr W75).wr W82).wr W89).wr W96).wr W103)
    have f127 : n0 ≤ h103.size := (Nat.le_trans (Nat.le_trans (Nat.le_trans (Nat.le_trans (Nat.le_trans (Nat.le_trans (Nat.le_trans (Nat.le_trans (Nat.le_trans (Nat.le_trans (Nat.le_trans (Nat.le_trans (Nat.le_trans (Nat.le_trans Z0 E1.1) (Keep.of_wr W19).1) (Keep.of_wr W26).1) (Keep.of_wr W33).1) (Keep.of_wr W40).1) (Keep.of_wr W47).1) (Keep.of_wr W54).1) (Keep.of_wr W61).1) (Keep.of_wr W68).1) (Keep.of_wr W75).1) (Keep.of_wr W82).1) (Keep.of_wr W89).1) (Keep.of_wr W96).1) (Keep.of_wr W103).1)
    have f129 : Exa Z h103 wNOT "com/example/apq/apq/jpql/Operator" := (((((((((((f31.wr W33).wr W40).wr W47).wr W54).wr W61).wr W68).wr W75).wr W82).wr W89).wr W96).wr W103)
    obtain ⟨cq130, kq130, q130a, q130b, q130c⟩ := isOf hZ e103 f129
    obtain ⟨_, _, ⟨T128, L128, k128, n128⟩, -, X128, ⟨Lc128, hQ128, l128, y128, z128⟩, st128⟩ := X103.virtualBack hx (y := (⟨"com/example/apq/apq/jpql/Operator", "compares", "()Z"⟩ : MethodName)) (z := (⟨"com/example/apq/apq/jpql/Operator", "compares", "()Z"⟩ : MethodName)) hown (mvT hZ (hw _ (List.mem_of_getElem? (i := 31) rfl))) (mvT hZ (hw _ (List.mem_of_getElem? (i := 32) rfl))) (notFace_of_selects (args := #[]) (mvT hZ (hw _ (List.mem_of_getElem? (i := 34) rfl)))) (mvT hZ (hw _ (List.mem_of_getElem? (i := 34) rfl))) (mvT hZ (hw _ (List.mem_of_getElem? (i := 33) rfl))) (by decide) (backOf (W := 0) (rmX l Z a0 hw [] wNOT kLOGICAL kEQUALITY kORDERING h103 n0 f127 f124 f125 f126 ne_LOGICAL_EQUALITY ne_LOGICAL_ORDERING) hZ (hw _ (List.mem_of_getElem? (i := 35) rfl)) (hw _ (List.mem_of_getElem? (i := 3) rfl)) (by decide) (by decide)) q130a q130c (g := (mkF m 119 #[.val (.int p0), .val (.ref b1), .val (.int (2 : Int32)), .val (.int (0 : Int32))] [(.ref wNOT)])) rfl (by rw [hml]; rfl) (Steps.refl _) (argsL := []) (rest := []) (lenOf pd___Z rfl) rfl (by show 2 * 0 + _ ≤ _; exact Nat.le_of_eq rfl) (hb hby at_119) (fun _ _ => ⟨rfl, e103, (by decide : 1 + 0 ≤ _), (by decide : 13 + 0 ≤ _)⟩)
    dsimp only [Pt.U, Pt.locs, Pt.cells, Pt.slots] at X128 l128 y128 z128 st128 hQ128
    subst l128 y128 z128
    obtain ⟨rfl, N128q, e128⟩ := hQ128
    have N128 := Fr.app N104 N128q
    obtain ⟨fs, hr, hrun, hended, hW, hsame⟩ := X128.leave (v := some (.int (1 : Int32))) (fun h => by rw [Bd.returns] at h; cases h)
    refine ⟨_, _, pre106 _ ?_, hrun, hended, _, _, rfl, ?_, ⟨_, rfl⟩, hW, hsame.mono (by decide) (by decide)⟩
    · show Steps p.tables e below (T103.setTop (mkF m 99 #[.val (.int p0), .val (.ref b1), .val (.int (2 : Int32)), .unset] [])) _
      refine XS.iloadN X103.here hx rfl (hb hby at_99) rfl ?_
      show Steps p.tables e below (T103.setTop (mkF m 100 #[.val (.int p0), .val (.ref b1), .val (.int (2 : Int32)), .unset] [(.int (2 : Int32))])) _
      refine XS.iconst X103.here hx rfl (hb hby at_100) ?_
      show Steps p.tables e below (T103.setTop (mkF m 101 #[.val (.int p0), .val (.ref b1), .val (.int (2 : Int32)), .unset] [(.int (3 : Int32)), (.int (2 : Int32))])) _
      refine XS.icmpYes X103.here hx rfl (pc0 := 101) (pc' := 114) rfl (hb hby at_101) rfl (tlt (by decide : (2 : Int32) < (3 : Int32))).1 (by decide) (by decide) ?_
      show Steps p.tables e below (T103.setTop (mkF m 114 #[.val (.int p0), .val (.ref b1), .val (.int (2 : Int32)), .unset] [])) _
      refine XS.iconst X103.here hx rfl (hb hby at_114) ?_
      show Steps p.tables e below (T103.setTop (mkF m 115 #[.val (.int p0), .val (.ref b1), .val (.int (2 : Int32)), .unset] [(.int (0 : Int32))])) _
      refine XS.istoreN X103.here hx rfl (hb hby at_115) rfl (l' := #[.val (.int p0), .val (.ref b1), .val (.int (2 : Int32)), .val (.int (0 : Int32))]) rfl ?_
      show Steps p.tables e below (T103.setTop (mkF m 116 #[.val (.int p0), .val (.ref b1), .val (.int (2 : Int32)), .val (.int (0 : Int32))] [])) _
      refine XS.aloadN X103.here hx rfl (hb hby at_116) rfl rfl ?_
      show Steps p.tables e below (T103.setTop (mkF m 117 #[.val (.int p0), .val (.ref b1), .val (.int (2 : Int32)), .val (.int (0 : Int32))] [(.ref b1)])) _
      refine XS.iloadN X103.here hx rfl (hb hby at_117) rfl ?_
      show Steps p.tables e below (T103.setTop (mkF m 118 #[.val (.int p0), .val (.ref b1), .val (.int (2 : Int32)), .val (.int (0 : Int32))] [(.int (2 : Int32)), (.ref b1)])) _
      refine X103.aaload hx (j := (2 : Int32)) (v := (.ref wNOT)) (by rw [e103]; exact Ar123.1) (State.isArrayOf_alike hZ.alike Ar123.2.1) rfl Ar123.2.2 hin123 hat123 (g := (mkF m 118 #[.val (.int p0), .val (.ref b1), .val (.int (2 : Int32)), .val (.int (0 : Int32))] [(.int (2 : Int32)), (.ref b1)])) rfl rfl (hb hby at_118) _ ?_
      show Steps p.tables e below (T103.setTop (mkF m 119 #[.val (.int p0), .val (.ref b1), .val (.int (2 : Int32)), .val (.int (0 : Int32))] [(.ref wNOT)])) _
      refine st128.trans ?_
      show Steps p.tables e below (T128.setTop (mkF m 122 #[.val (.int p0), .val (.ref b1), .val (.int (2 : Int32)), .val (.int (0 : Int32))] [(.int (0 : Int32))])) _
      refine XS.iloadN X128.here hx rfl (hb hby at_122) rfl ?_
      show Steps p.tables e below (T128.setTop (mkF m 123 #[.val (.int p0), .val (.ref b1), .val (.int (2 : Int32)), .val (.int (0 : Int32))] [(.int (0 : Int32)), (.int (0 : Int32))])) _
      refine XS.icmpNo X128.here hx rfl (hb hby at_123) rfl (teq (by decide : (0 : Int32) = (0 : Int32))).2 ?_
      show Steps p.tables e below (T128.setTop (mkF m 126 #[.val (.int p0), .val (.ref b1), .val (.int (2 : Int32)), .val (.int (0 : Int32))] [])) _
      refine XS.iconst X128.here hx rfl (hb hby at_126) ?_
      show Steps p.tables e below (T128.setTop (mkF m 127 #[.val (.int p0), .val (.ref b1), .val (.int (2 : Int32)), .val (.int (0 : Int32))] [(.int (1 : Int32))])) _
      refine XS.goto X128.here hx rfl (pc0 := 127) (pc' := 131) rfl (hb hby at_127) (by decide) (by decide) ?_
      show Steps p.tables e below (T128.setTop (mkF m 131 #[.val (.int p0), .val (.ref b1), .val (.int (2 : Int32)), .val (.int (0 : Int32))] [(.int (1 : Int32))])) _
      exact retN X128 hx (t := .boolean) Bd.returns (by simp) (hb hby at_131) hr
    · show own_Q0 n0 _ T128.heap _
      rw [e128]
      exact ⟨rfl, N128⟩
  · rw [hi] at pre106
    obtain ⟨cl131, Ar131, q131, S131, N131_, H131, G131⟩ := V103
    have hin131 : ¬ ((3 : Int32) < 0 ∨ cl131.slots.size ≤ ((3 : Int32)).toNatClampNeg) := inb_of S131 ⟨by decide, by decide⟩
    have hat131 : cl131.slots[((3 : Int32)).toNatClampNeg]? = some (.ref wEQUAL) := H131.at hin131 rfl
    have f132 : Fld Z h103 wEQUAL "com/example/apq/apq/jpql/Operator" "kind" "Lcom/example/apq/apq/jpql/Operator$Kind;" (.ref kEQUALITY) := ((((((((((((((P_F_wEQUAL_Operator_kind.ext E1).other W19 (Or.inl ne5)).other W26 (Or.inl ne5)).other W33 (Or.inl ne5)).other W40 (Or.inl ne5)).other W47 (Or.inl ne5)).other W54 (Or.inl ne5)).other W61 (Or.inl ne5)).other W68 (Or.inl ne5)).other W75 (Or.inl ne5)).other W82 (Or.inl ne5)).other W89 (Or.inl ne5)).other W96 (Or.inl ne5)).other W103 (Or.inl ne5))
    have f133 : Sta Z h103 "com/example/apq/apq/jpql/Operator$Kind" "EQUALITY" "Lcom/example/apq/apq/jpql/Operator$Kind;" (.ref kEQUALITY) := ((((((((((((((P_S_Operator_Kind_EQUALITY.ext E1).wr W19).wr W26).wr W33).wr W40).wr W47).wr W54).wr W61).wr W68).wr W75).wr W82).wr W89).wr W96).wr W103)
    have f134 : n0 ≤ h103.size := (Nat.le_trans (Nat.le_trans (Nat.le_trans (Nat.le_trans (Nat.le_trans (Nat.le_trans (Nat.le_trans (Nat.le_trans (Nat.le_trans (Nat.le_trans (Nat.le_trans (Nat.le_trans (Nat.le_trans (Nat.le_trans Z0 E1.1) (Keep.of_wr W19).1) (Keep.of_wr W26).1) (Keep.of_wr W33).1) (Keep.of_wr W40).1) (Keep.of_wr W47).1) (Keep.of_wr W54).1) (Keep.of_wr W61).1) (Keep.of_wr W68).1) (Keep.of_wr W75).1) (Keep.of_wr W82).1) (Keep.of_wr W89).1) (Keep.of_wr W96).1) (Keep.of_wr W103).1)
    have f136 : Exa Z h103 wEQUAL "com/example/apq/apq/jpql/Operator" := ((((((((((f38.wr W40).wr W47).wr W54).wr W61).wr W68).wr W75).wr W82).wr W89).wr W96).wr W103)
    obtain ⟨cq137, kq137, q137a, q137b, q137c⟩ := isOf hZ e103 f136
    obtain ⟨_, _, ⟨T135, L135, k135, n135⟩, -, X135, ⟨Lc135, hQ135, l135, y135, z135⟩, st135⟩ := X103.virtualBack hx (y := (⟨"com/example/apq/apq/jpql/Operator", "compares", "()Z"⟩ : MethodName)) (z := (⟨"com/example/apq/apq/jpql/Operator", "compares", "()Z"⟩ : MethodName)) hown (mvT hZ (hw _ (List.mem_of_getElem? (i := 31) rfl))) (mvT hZ (hw _ (List.mem_of_getElem? (i := 32) rfl))) (notFace_of_selects (args := #[]) (mvT hZ (hw _ (List.mem_of_getElem? (i := 34) rfl)))) (mvT hZ (hw _ (List.mem_of_getElem? (i := 34) rfl))) (mvT hZ (hw _ (List.mem_of_getElem? (i := 33) rfl))) (by decide) (backOf (W := 0) (rmE l Z a0 hw [] wEQUAL kEQUALITY h103 n0 f134 f132 f133) hZ (hw _ (List.mem_of_getElem? (i := 35) rfl)) (hw _ (List.mem_of_getElem? (i := 3) rfl)) (by decide) (by decide)) q137a q137c (g := (mkF m 119 #[.val (.int p0), .val (.ref b1), .val (.int (3 : Int32)), .val (.int (1 : Int32))] [(.ref wEQUAL)])) rfl (by rw [hml]; rfl) (Steps.refl _) (argsL := []) (rest := []) (lenOf pd___Z rfl) rfl (by show 2 * 0 + _ ≤ _; exact Nat.le_of_eq rfl) (hb hby at_119) (fun _ _ => ⟨rfl, e103, (by decide : 1 + 0 ≤ _), (by decide : 13 + 0 ≤ _)⟩)
    dsimp only [Pt.U, Pt.locs, Pt.cells, Pt.slots] at X135 l135 y135 z135 st135 hQ135
    subst l135 y135 z135
    obtain ⟨rfl, N135q, e135⟩ := hQ135
    have N135 := Fr.app N104 N135q
    obtain ⟨fs, hr, hrun, hended, hW, hsame⟩ := X135.leave (v := some (.int (1 : Int32))) (fun h => by rw [Bd.returns] at h; cases h)
    refine ⟨_, _, pre106 _ ?_, hrun, hended, _, _, rfl, ?_, ⟨_, rfl⟩, hW, hsame.mono (by decide) (by decide)⟩
    · show Steps p.tables e below (T103.setTop (mkF m 99 #[.val (.int p0), .val (.ref b1), .val (.int (3 : Int32)), .unset] [])) _
      refine XS.iloadN X103.here hx rfl (hb hby at_99) rfl ?_
      show Steps p.tables e below (T103.setTop (mkF m 100 #[.val (.int p0), .val (.ref b1), .val (.int (3 : Int32)), .unset] [(.int (3 : Int32))])) _
      refine XS.iconst X103.here hx rfl (hb hby at_100) ?_
      show Steps p.tables e below (T103.setTop (mkF m 101 #[.val (.int p0), .val (.ref b1), .val (.int (3 : Int32)), .unset] [(.int (3 : Int32)), (.int (3 : Int32))])) _
      refine XS.icmpNo X103.here hx rfl (hb hby at_101) rfl (flt (by decide : ¬ ((3 : Int32) < (3 : Int32)))).1 ?_
      show Steps p.tables e below (T103.setTop (mkF m 104 #[.val (.int p0), .val (.ref b1), .val (.int (3 : Int32)), .unset] [])) _
      refine XS.iloadN X103.here hx rfl (hb hby at_104) rfl ?_
      show Steps p.tables e below (T103.setTop (mkF m 105 #[.val (.int p0), .val (.ref b1), .val (.int (3 : Int32)), .unset] [(.int (3 : Int32))])) _
      refine XS.bipush X103.here hx rfl (hb hby at_105) ?_
      show Steps p.tables e below (T103.setTop (mkF m 107 #[.val (.int p0), .val (.ref b1), .val (.int (3 : Int32)), .unset] [(.int (8 : Int32)), (.int (3 : Int32))])) _
      refine XS.icmpNo X103.here hx rfl (hb hby at_107) rfl (flt (by decide : ¬ ((8 : Int32) < (3 : Int32)))).2.2.1 ?_
      show Steps p.tables e below (T103.setTop (mkF m 110 #[.val (.int p0), .val (.ref b1), .val (.int (3 : Int32)), .unset] [])) _
      refine XS.iconst X103.here hx rfl (hb hby at_110) ?_
      show Steps p.tables e below (T103.setTop (mkF m 111 #[.val (.int p0), .val (.ref b1), .val (.int (3 : Int32)), .unset] [(.int (1 : Int32))])) _
      refine XS.goto X103.here hx rfl (pc0 := 111) (pc' := 115) rfl (hb hby at_111) (by decide) (by decide) ?_
      show Steps p.tables e below (T103.setTop (mkF m 115 #[.val (.int p0), .val (.ref b1), .val (.int (3 : Int32)), .unset] [(.int (1 : Int32))])) _
      refine XS.istoreN X103.here hx rfl (hb hby at_115) rfl (l' := #[.val (.int p0), .val (.ref b1), .val (.int (3 : Int32)), .val (.int (1 : Int32))]) rfl ?_
      show Steps p.tables e below (T103.setTop (mkF m 116 #[.val (.int p0), .val (.ref b1), .val (.int (3 : Int32)), .val (.int (1 : Int32))] [])) _
      refine XS.aloadN X103.here hx rfl (hb hby at_116) rfl rfl ?_
      show Steps p.tables e below (T103.setTop (mkF m 117 #[.val (.int p0), .val (.ref b1), .val (.int (3 : Int32)), .val (.int (1 : Int32))] [(.ref b1)])) _
      refine XS.iloadN X103.here hx rfl (hb hby at_117) rfl ?_
      show Steps p.tables e below (T103.setTop (mkF m 118 #[.val (.int p0), .val (.ref b1), .val (.int (3 : Int32)), .val (.int (1 : Int32))] [(.int (3 : Int32)), (.ref b1)])) _
      refine X103.aaload hx (j := (3 : Int32)) (v := (.ref wEQUAL)) (by rw [e103]; exact Ar131.1) (State.isArrayOf_alike hZ.alike Ar131.2.1) rfl Ar131.2.2 hin131 hat131 (g := (mkF m 118 #[.val (.int p0), .val (.ref b1), .val (.int (3 : Int32)), .val (.int (1 : Int32))] [(.int (3 : Int32)), (.ref b1)])) rfl rfl (hb hby at_118) _ ?_
      show Steps p.tables e below (T103.setTop (mkF m 119 #[.val (.int p0), .val (.ref b1), .val (.int (3 : Int32)), .val (.int (1 : Int32))] [(.ref wEQUAL)])) _
      refine st135.trans ?_
      show Steps p.tables e below (T135.setTop (mkF m 122 #[.val (.int p0), .val (.ref b1), .val (.int (3 : Int32)), .val (.int (1 : Int32))] [(.int (1 : Int32))])) _
      refine XS.iloadN X135.here hx rfl (hb hby at_122) rfl ?_
      show Steps p.tables e below (T135.setTop (mkF m 123 #[.val (.int p0), .val (.ref b1), .val (.int (3 : Int32)), .val (.int (1 : Int32))] [(.int (1 : Int32)), (.int (1 : Int32))])) _
      refine XS.icmpNo X135.here hx rfl (hb hby at_123) rfl (teq (by decide : (1 : Int32) = (1 : Int32))).2 ?_
      show Steps p.tables e below (T135.setTop (mkF m 126 #[.val (.int p0), .val (.ref b1), .val (.int (3 : Int32)), .val (.int (1 : Int32))] [])) _
      refine XS.iconst X135.here hx rfl (hb hby at_126) ?_
      show Steps p.tables e below (T135.setTop (mkF m 127 #[.val (.int p0), .val (.ref b1), .val (.int (3 : Int32)), .val (.int (1 : Int32))] [(.int (1 : Int32))])) _
      refine XS.goto X135.here hx rfl (pc0 := 127) (pc' := 131) rfl (hb hby at_127) (by decide) (by decide) ?_
      show Steps p.tables e below (T135.setTop (mkF m 131 #[.val (.int p0), .val (.ref b1), .val (.int (3 : Int32)), .val (.int (1 : Int32))] [(.int (1 : Int32))])) _
      exact retN X135 hx (t := .boolean) Bd.returns (by simp) (hb hby at_131) hr
    · show own_Q0 n0 _ T135.heap _
      rw [e135]
      exact ⟨rfl, N135⟩
  · rw [hi] at pre106
    obtain ⟨cl138, Ar138, q138, S138, N138_, H138, G138⟩ := V103
    have hin138 : ¬ ((4 : Int32) < 0 ∨ cl138.slots.size ≤ ((4 : Int32)).toNatClampNeg) := inb_of S138 ⟨by decide, by decide⟩
    have hat138 : cl138.slots[((4 : Int32)).toNatClampNeg]? = some (.ref wNOT_EQUAL) := H138.at hin138 rfl
    have f139 : Fld Z h103 wNOT_EQUAL "com/example/apq/apq/jpql/Operator" "kind" "Lcom/example/apq/apq/jpql/Operator$Kind;" (.ref kEQUALITY) := ((((((((((((((P_F_wNOT_EQUAL_Operator_kind.ext E1).other W19 (Or.inl ne6)).other W26 (Or.inl ne6)).other W33 (Or.inl ne6)).other W40 (Or.inl ne6)).other W47 (Or.inl ne6)).other W54 (Or.inl ne6)).other W61 (Or.inl ne6)).other W68 (Or.inl ne6)).other W75 (Or.inl ne6)).other W82 (Or.inl ne6)).other W89 (Or.inl ne6)).other W96 (Or.inl ne6)).other W103 (Or.inl ne6))
    have f140 : Sta Z h103 "com/example/apq/apq/jpql/Operator$Kind" "EQUALITY" "Lcom/example/apq/apq/jpql/Operator$Kind;" (.ref kEQUALITY) := ((((((((((((((P_S_Operator_Kind_EQUALITY.ext E1).wr W19).wr W26).wr W33).wr W40).wr W47).wr W54).wr W61).wr W68).wr W75).wr W82).wr W89).wr W96).wr W103)
    have f141 : n0 ≤ h103.size := (Nat.le_trans (Nat.le_trans (Nat.le_trans (Nat.le_trans (Nat.le_trans (Nat.le_trans (Nat.le_trans (Nat.le_trans (Nat.le_trans (Nat.le_trans (Nat.le_trans (Nat.le_trans (Nat.le_trans (Nat.le_trans Z0 E1.1) (Keep.of_wr W19).1) (Keep.of_wr W26).1) (Keep.of_wr W33).1) (Keep.of_wr W40).1) (Keep.of_wr W47).1) (Keep.of_wr W54).1) (Keep.of_wr W61).1) (Keep.of_wr W68).1) (Keep.of_wr W75).1) (Keep.of_wr W82).1) (Keep.of_wr W89).1) (Keep.of_wr W96).1) (Keep.of_wr W103).1)
    have f143 : Exa Z h103 wNOT_EQUAL "com/example/apq/apq/jpql/Operator" := (((((((((f45.wr W47).wr W54).wr W61).wr W68).wr W75).wr W82).wr W89).wr W96).wr W103)
    obtain ⟨cq144, kq144, q144a, q144b, q144c⟩ := isOf hZ e103 f143
    obtain ⟨_, _, ⟨T142, L142, k142, n142⟩, -, X142, ⟨Lc142, hQ142, l142, y142, z142⟩, st142⟩ := X103.virtualBack hx (y := (⟨"com/example/apq/apq/jpql/Operator", "compares", "()Z"⟩ : MethodName)) (z := (⟨"com/example/apq/apq/jpql/Operator", "compares", "()Z"⟩ : MethodName)) hown (mvT hZ (hw _ (List.mem_of_getElem? (i := 31) rfl))) (mvT hZ (hw _ (List.mem_of_getElem? (i := 32) rfl))) (notFace_of_selects (args := #[]) (mvT hZ (hw _ (List.mem_of_getElem? (i := 34) rfl)))) (mvT hZ (hw _ (List.mem_of_getElem? (i := 34) rfl))) (mvT hZ (hw _ (List.mem_of_getElem? (i := 33) rfl))) (by decide) (backOf (W := 0) (rmE l Z a0 hw [] wNOT_EQUAL kEQUALITY h103 n0 f141 f139 f140) hZ (hw _ (List.mem_of_getElem? (i := 35) rfl)) (hw _ (List.mem_of_getElem? (i := 3) rfl)) (by decide) (by decide)) q144a q144c (g := (mkF m 119 #[.val (.int p0), .val (.ref b1), .val (.int (4 : Int32)), .val (.int (1 : Int32))] [(.ref wNOT_EQUAL)])) rfl (by rw [hml]; rfl) (Steps.refl _) (argsL := []) (rest := []) (lenOf pd___Z rfl) rfl (by show 2 * 0 + _ ≤ _; exact Nat.le_of_eq rfl) (hb hby at_119) (fun _ _ => ⟨rfl, e103, (by decide : 1 + 0 ≤ _), (by decide : 13 + 0 ≤ _)⟩)
    dsimp only [Pt.U, Pt.locs, Pt.cells, Pt.slots] at X142 l142 y142 z142 st142 hQ142
    subst l142 y142 z142
    obtain ⟨rfl, N142q, e142⟩ := hQ142
    have N142 := Fr.app N104 N142q
    obtain ⟨fs, hr, hrun, hended, hW, hsame⟩ := X142.leave (v := some (.int (1 : Int32))) (fun h => by rw [Bd.returns] at h; cases h)
    refine ⟨_, _, pre106 _ ?_, hrun, hended, _, _, rfl, ?_, ⟨_, rfl⟩, hW, hsame.mono (by decide) (by decide)⟩
    · show Steps p.tables e below (T103.setTop (mkF m 99 #[.val (.int p0), .val (.ref b1), .val (.int (4 : Int32)), .unset] [])) _
      refine XS.iloadN X103.here hx rfl (hb hby at_99) rfl ?_
      show Steps p.tables e below (T103.setTop (mkF m 100 #[.val (.int p0), .val (.ref b1), .val (.int (4 : Int32)), .unset] [(.int (4 : Int32))])) _
      refine XS.iconst X103.here hx rfl (hb hby at_100) ?_
      show Steps p.tables e below (T103.setTop (mkF m 101 #[.val (.int p0), .val (.ref b1), .val (.int (4 : Int32)), .unset] [(.int (3 : Int32)), (.int (4 : Int32))])) _
      refine XS.icmpNo X103.here hx rfl (hb hby at_101) rfl (flt (by decide : ¬ ((4 : Int32) < (3 : Int32)))).1 ?_
      show Steps p.tables e below (T103.setTop (mkF m 104 #[.val (.int p0), .val (.ref b1), .val (.int (4 : Int32)), .unset] [])) _
      refine XS.iloadN X103.here hx rfl (hb hby at_104) rfl ?_
      show Steps p.tables e below (T103.setTop (mkF m 105 #[.val (.int p0), .val (.ref b1), .val (.int (4 : Int32)), .unset] [(.int (4 : Int32))])) _
      refine XS.bipush X103.here hx rfl (hb hby at_105) ?_
      show Steps p.tables e below (T103.setTop (mkF m 107 #[.val (.int p0), .val (.ref b1), .val (.int (4 : Int32)), .unset] [(.int (8 : Int32)), (.int (4 : Int32))])) _
      refine XS.icmpNo X103.here hx rfl (hb hby at_107) rfl (flt (by decide : ¬ ((8 : Int32) < (4 : Int32)))).2.2.1 ?_
      show Steps p.tables e below (T103.setTop (mkF m 110 #[.val (.int p0), .val (.ref b1), .val (.int (4 : Int32)), .unset] [])) _
      refine XS.iconst X103.here hx rfl (hb hby at_110) ?_
      show Steps p.tables e below (T103.setTop (mkF m 111 #[.val (.int p0), .val (.ref b1), .val (.int (4 : Int32)), .unset] [(.int (1 : Int32))])) _
      refine XS.goto X103.here hx rfl (pc0 := 111) (pc' := 115) rfl (hb hby at_111) (by decide) (by decide) ?_
      show Steps p.tables e below (T103.setTop (mkF m 115 #[.val (.int p0), .val (.ref b1), .val (.int (4 : Int32)), .unset] [(.int (1 : Int32))])) _
      refine XS.istoreN X103.here hx rfl (hb hby at_115) rfl (l' := #[.val (.int p0), .val (.ref b1), .val (.int (4 : Int32)), .val (.int (1 : Int32))]) rfl ?_
      show Steps p.tables e below (T103.setTop (mkF m 116 #[.val (.int p0), .val (.ref b1), .val (.int (4 : Int32)), .val (.int (1 : Int32))] [])) _
      refine XS.aloadN X103.here hx rfl (hb hby at_116) rfl rfl ?_
      show Steps p.tables e below (T103.setTop (mkF m 117 #[.val (.int p0), .val (.ref b1), .val (.int (4 : Int32)), .val (.int (1 : Int32))] [(.ref b1)])) _
      refine XS.iloadN X103.here hx rfl (hb hby at_117) rfl ?_
      show Steps p.tables e below (T103.setTop (mkF m 118 #[.val (.int p0), .val (.ref b1), .val (.int (4 : Int32)), .val (.int (1 : Int32))] [(.int (4 : Int32)), (.ref b1)])) _
      refine X103.aaload hx (j := (4 : Int32)) (v := (.ref wNOT_EQUAL)) (by rw [e103]; exact Ar138.1) (State.isArrayOf_alike hZ.alike Ar138.2.1) rfl Ar138.2.2 hin138 hat138 (g := (mkF m 118 #[.val (.int p0), .val (.ref b1), .val (.int (4 : Int32)), .val (.int (1 : Int32))] [(.int (4 : Int32)), (.ref b1)])) rfl rfl (hb hby at_118) _ ?_
      show Steps p.tables e below (T103.setTop (mkF m 119 #[.val (.int p0), .val (.ref b1), .val (.int (4 : Int32)), .val (.int (1 : Int32))] [(.ref wNOT_EQUAL)])) _
      refine st142.trans ?_
      show Steps p.tables e below (T142.setTop (mkF m 122 #[.val (.int p0), .val (.ref b1), .val (.int (4 : Int32)), .val (.int (1 : Int32))] [(.int (1 : Int32))])) _
      refine XS.iloadN X142.here hx rfl (hb hby at_122) rfl ?_
      show Steps p.tables e below (T142.setTop (mkF m 123 #[.val (.int p0), .val (.ref b1), .val (.int (4 : Int32)), .val (.int (1 : Int32))] [(.int (1 : Int32)), (.int (1 : Int32))])) _
      refine XS.icmpNo X142.here hx rfl (hb hby at_123) rfl (teq (by decide : (1 : Int32) = (1 : Int32))).2 ?_
      show Steps p.tables e below (T142.setTop (mkF m 126 #[.val (.int p0), .val (.ref b1), .val (.int (4 : Int32)), .val (.int (1 : Int32))] [])) _
      refine XS.iconst X142.here hx rfl (hb hby at_126) ?_
      show Steps p.tables e below (T142.setTop (mkF m 127 #[.val (.int p0), .val (.ref b1), .val (.int (4 : Int32)), .val (.int (1 : Int32))] [(.int (1 : Int32))])) _
      refine XS.goto X142.here hx rfl (pc0 := 127) (pc' := 131) rfl (hb hby at_127) (by decide) (by decide) ?_
      show Steps p.tables e below (T142.setTop (mkF m 131 #[.val (.int p0), .val (.ref b1), .val (.int (4 : Int32)), .val (.int (1 : Int32))] [(.int (1 : Int32))])) _
      exact retN X142 hx (t := .boolean) Bd.returns (by simp) (hb hby at_131) hr
    · show own_Q0 n0 _ T142.heap _
      rw [e142]
      exact ⟨rfl, N142⟩
  · rw [hi] at pre106
    obtain ⟨cl145, Ar145, q145, S145, N145_, H145, G145⟩ := V103
    have hin145 : ¬ ((5 : Int32) < 0 ∨ cl145.slots.size ≤ ((5 : Int32)).toNatClampNeg) := inb_of S145 ⟨by decide, by decide⟩
    have hat145 : cl145.slots[((5 : Int32)).toNatClampNeg]? = some (.ref wLESS) := H145.at hin145 rfl
    have f146 : Fld Z h103 wLESS "com/example/apq/apq/jpql/Operator" "kind" "Lcom/example/apq/apq/jpql/Operator$Kind;" (.ref kORDERING) := ((((((((((((((P_F_wLESS_Operator_kind.ext E1).other W19 (Or.inl ne7)).other W26 (Or.inl ne7)).other W33 (Or.inl ne7)).other W40 (Or.inl ne7)).other W47 (Or.inl ne7)).other W54 (Or.inl ne7)).other W61 (Or.inl ne7)).other W68 (Or.inl ne7)).other W75 (Or.inl ne7)).other W82 (Or.inl ne7)).other W89 (Or.inl ne7)).other W96 (Or.inl ne7)).other W103 (Or.inl ne7))
    have f147 : Sta Z h103 "com/example/apq/apq/jpql/Operator$Kind" "EQUALITY" "Lcom/example/apq/apq/jpql/Operator$Kind;" (.ref kEQUALITY) := ((((((((((((((P_S_Operator_Kind_EQUALITY.ext E1).wr W19).wr W26).wr W33).wr W40).wr W47).wr W54).wr W61).wr W68).wr W75).wr W82).wr W89).wr W96).wr W103)
    have f148 : Sta Z h103 "com/example/apq/apq/jpql/Operator$Kind" "ORDERING" "Lcom/example/apq/apq/jpql/Operator$Kind;" (.ref kORDERING) := ((((((((((((((P_S_Operator_Kind_ORDERING.ext E1).wr W19).wr W26).wr W33).wr W40).wr W47).wr W54).wr W61).wr W68).wr W75).wr W82).wr W89).wr W96).wr W103)
    have f149 : n0 ≤ h103.size := (Nat.le_trans (Nat.le_trans (Nat.le_trans (Nat.le_trans (Nat.le_trans (Nat.le_trans (Nat.le_trans (Nat.le_trans (Nat.le_trans (Nat.le_trans (Nat.le_trans (Nat.le_trans (Nat.le_trans (Nat.le_trans Z0 E1.1) (Keep.of_wr W19).1) (Keep.of_wr W26).1) (Keep.of_wr W33).1) (Keep.of_wr W40).1) (Keep.of_wr W47).1) (Keep.of_wr W54).1) (Keep.of_wr W61).1) (Keep.of_wr W68).1) (Keep.of_wr W75).1) (Keep.of_wr W82).1) (Keep.of_wr W89).1) (Keep.of_wr W96).1) (Keep.of_wr W103).1)
    have f151 : Exa Z h103 wLESS "com/example/apq/apq/jpql/Operator" := ((((((((f52.wr W54).wr W61).wr W68).wr W75).wr W82).wr W89).wr W96).wr W103)
    obtain ⟨cq152, kq152, q152a, q152b, q152c⟩ := isOf hZ e103 f151
    obtain ⟨_, _, ⟨T150, L150, k150, n150⟩, -, X150, ⟨Lc150, hQ150, l150, y150, z150⟩, st150⟩ := X103.virtualBack hx (y := (⟨"com/example/apq/apq/jpql/Operator", "compares", "()Z"⟩ : MethodName)) (z := (⟨"com/example/apq/apq/jpql/Operator", "compares", "()Z"⟩ : MethodName)) hown (mvT hZ (hw _ (List.mem_of_getElem? (i := 31) rfl))) (mvT hZ (hw _ (List.mem_of_getElem? (i := 32) rfl))) (notFace_of_selects (args := #[]) (mvT hZ (hw _ (List.mem_of_getElem? (i := 34) rfl)))) (mvT hZ (hw _ (List.mem_of_getElem? (i := 34) rfl))) (mvT hZ (hw _ (List.mem_of_getElem? (i := 33) rfl))) (by decide) (backOf (W := 0) (rmO l Z a0 hw [] wLESS kEQUALITY kORDERING h103 n0 f149 f146 f147 f148 ne_ORDERING_EQUALITY) hZ (hw _ (List.mem_of_getElem? (i := 35) rfl)) (hw _ (List.mem_of_getElem? (i := 3) rfl)) (by decide) (by decide)) q152a q152c (g := (mkF m 119 #[.val (.int p0), .val (.ref b1), .val (.int (5 : Int32)), .val (.int (1 : Int32))] [(.ref wLESS)])) rfl (by rw [hml]; rfl) (Steps.refl _) (argsL := []) (rest := []) (lenOf pd___Z rfl) rfl (by show 2 * 0 + _ ≤ _; exact Nat.le_of_eq rfl) (hb hby at_119) (fun _ _ => ⟨rfl, e103, (by decide : 1 + 0 ≤ _), (by decide : 13 + 0 ≤ _)⟩)
    dsimp only [Pt.U, Pt.locs, Pt.cells, Pt.slots] at X150 l150 y150 z150 st150 hQ150
    subst l150 y150 z150
    obtain ⟨rfl, N150q, e150⟩ := hQ150
    have N150 := Fr.app N104 N150q
    obtain ⟨fs, hr, hrun, hended, hW, hsame⟩ := X150.leave (v := some (.int (1 : Int32))) (fun h => by rw [Bd.returns] at h; cases h)
    refine ⟨_, _, pre106 _ ?_, hrun, hended, _, _, rfl, ?_, ⟨_, rfl⟩, hW, hsame.mono (by decide) (by decide)⟩
    · show Steps p.tables e below (T103.setTop (mkF m 99 #[.val (.int p0), .val (.ref b1), .val (.int (5 : Int32)), .unset] [])) _
      refine XS.iloadN X103.here hx rfl (hb hby at_99) rfl ?_
      show Steps p.tables e below (T103.setTop (mkF m 100 #[.val (.int p0), .val (.ref b1), .val (.int (5 : Int32)), .unset] [(.int (5 : Int32))])) _
      refine XS.iconst X103.here hx rfl (hb hby at_100) ?_
      show Steps p.tables e below (T103.setTop (mkF m 101 #[.val (.int p0), .val (.ref b1), .val (.int (5 : Int32)), .unset] [(.int (3 : Int32)), (.int (5 : Int32))])) _
      refine XS.icmpNo X103.here hx rfl (hb hby at_101) rfl (flt (by decide : ¬ ((5 : Int32) < (3 : Int32)))).1 ?_
      show Steps p.tables e below (T103.setTop (mkF m 104 #[.val (.int p0), .val (.ref b1), .val (.int (5 : Int32)), .unset] [])) _
      refine XS.iloadN X103.here hx rfl (hb hby at_104) rfl ?_
      show Steps p.tables e below (T103.setTop (mkF m 105 #[.val (.int p0), .val (.ref b1), .val (.int (5 : Int32)), .unset] [(.int (5 : Int32))])) _
      refine XS.bipush X103.here hx rfl (hb hby at_105) ?_
      show Steps p.tables e below (T103.setTop (mkF m 107 #[.val (.int p0), .val (.ref b1), .val (.int (5 : Int32)), .unset] [(.int (8 : Int32)), (.int (5 : Int32))])) _
      refine XS.icmpNo X103.here hx rfl (hb hby at_107) rfl (flt (by decide : ¬ ((8 : Int32) < (5 : Int32)))).2.2.1 ?_
      show Steps p.tables e below (T103.setTop (mkF m 110 #[.val (.int p0), .val (.ref b1), .val (.int (5 : Int32)), .unset] [])) _
      refine XS.iconst X103.here hx rfl (hb hby at_110) ?_
      show Steps p.tables e below (T103.setTop (mkF m 111 #[.val (.int p0), .val (.ref b1), .val (.int (5 : Int32)), .unset] [(.int (1 : Int32))])) _
      refine XS.goto X103.here hx rfl (pc0 := 111) (pc' := 115) rfl (hb hby at_111) (by decide) (by decide) ?_
      show Steps p.tables e below (T103.setTop (mkF m 115 #[.val (.int p0), .val (.ref b1), .val (.int (5 : Int32)), .unset] [(.int (1 : Int32))])) _
      refine XS.istoreN X103.here hx rfl (hb hby at_115) rfl (l' := #[.val (.int p0), .val (.ref b1), .val (.int (5 : Int32)), .val (.int (1 : Int32))]) rfl ?_
      show Steps p.tables e below (T103.setTop (mkF m 116 #[.val (.int p0), .val (.ref b1), .val (.int (5 : Int32)), .val (.int (1 : Int32))] [])) _
      refine XS.aloadN X103.here hx rfl (hb hby at_116) rfl rfl ?_
      show Steps p.tables e below (T103.setTop (mkF m 117 #[.val (.int p0), .val (.ref b1), .val (.int (5 : Int32)), .val (.int (1 : Int32))] [(.ref b1)])) _
      refine XS.iloadN X103.here hx rfl (hb hby at_117) rfl ?_
      show Steps p.tables e below (T103.setTop (mkF m 118 #[.val (.int p0), .val (.ref b1), .val (.int (5 : Int32)), .val (.int (1 : Int32))] [(.int (5 : Int32)), (.ref b1)])) _
      refine X103.aaload hx (j := (5 : Int32)) (v := (.ref wLESS)) (by rw [e103]; exact Ar145.1) (State.isArrayOf_alike hZ.alike Ar145.2.1) rfl Ar145.2.2 hin145 hat145 (g := (mkF m 118 #[.val (.int p0), .val (.ref b1), .val (.int (5 : Int32)), .val (.int (1 : Int32))] [(.int (5 : Int32)), (.ref b1)])) rfl rfl (hb hby at_118) _ ?_
      show Steps p.tables e below (T103.setTop (mkF m 119 #[.val (.int p0), .val (.ref b1), .val (.int (5 : Int32)), .val (.int (1 : Int32))] [(.ref wLESS)])) _
      refine st150.trans ?_
      show Steps p.tables e below (T150.setTop (mkF m 122 #[.val (.int p0), .val (.ref b1), .val (.int (5 : Int32)), .val (.int (1 : Int32))] [(.int (1 : Int32))])) _
      refine XS.iloadN X150.here hx rfl (hb hby at_122) rfl ?_
      show Steps p.tables e below (T150.setTop (mkF m 123 #[.val (.int p0), .val (.ref b1), .val (.int (5 : Int32)), .val (.int (1 : Int32))] [(.int (1 : Int32)), (.int (1 : Int32))])) _
      refine XS.icmpNo X150.here hx rfl (hb hby at_123) rfl (teq (by decide : (1 : Int32) = (1 : Int32))).2 ?_
      show Steps p.tables e below (T150.setTop (mkF m 126 #[.val (.int p0), .val (.ref b1), .val (.int (5 : Int32)), .val (.int (1 : Int32))] [])) _
      refine XS.iconst X150.here hx rfl (hb hby at_126) ?_
      show Steps p.tables e below (T150.setTop (mkF m 127 #[.val (.int p0), .val (.ref b1), .val (.int (5 : Int32)), .val (.int (1 : Int32))] [(.int (1 : Int32))])) _
      refine XS.goto X150.here hx rfl (pc0 := 127) (pc' := 131) rfl (hb hby at_127) (by decide) (by decide) ?_
      show Steps p.tables e below (T150.setTop (mkF m 131 #[.val (.int p0), .val (.ref b1), .val (.int (5 : Int32)), .val (.int (1 : Int32))] [(.int (1 : Int32))])) _
      exact retN X150 hx (t := .boolean) Bd.returns (by simp) (hb hby at_131) hr
    · show own_Q0 n0 _ T150.heap _
      rw [e150]
      exact ⟨rfl, N150⟩
  · rw [hi] at pre106
    obtain ⟨cl153, Ar153, q153, S153, N153_, H153, G153⟩ := V103
    have hin153 : ¬ ((6 : Int32) < 0 ∨ cl153.slots.size ≤ ((6 : Int32)).toNatClampNeg) := inb_of S153 ⟨by decide, by decide⟩
    have hat153 : cl153.slots[((6 : Int32)).toNatClampNeg]? = some (.ref wLESS_OR_EQUAL) := H153.at hin153 rfl
    have f154 : Fld Z h103 wLESS_OR_EQUAL "com/example/apq/apq/jpql/Operator" "kind" "Lcom/example/apq/apq/jpql/Operator$Kind;" (.ref kORDERING) := ((((((((((((((P_F_wLESS_OR_EQUAL_Operator_kind.ext E1).other W19 (Or.inl ne8)).other W26 (Or.inl ne8)).other W33 (Or.inl ne8)).other W40 (Or.inl ne8)).other W47 (Or.inl ne8)).other W54 (Or.inl ne8)).other W61 (Or.inl ne8)).other W68 (Or.inl ne8)).other W75 (Or.inl ne8)).other W82 (Or.inl ne8)).other W89 (Or.inl ne8)).other W96 (Or.inl ne8)).other W103 (Or.inl ne8))
    have f155 : Sta Z h103 "com/example/apq/apq/jpql/Operator$Kind" "EQUALITY" "Lcom/example/apq/apq/jpql/Operator$Kind;" (.ref kEQUALITY) := ((((((((((((((P_S_Operator_Kind_EQUALITY.ext E1).wr W19).wr W26).wr W33).wr W40).wr W47).wr W54).wr W61).wr W68).wr W75).wr W82).wr W89).wr W96).wr W103)
    have f156 : Sta Z h103 "com/example/apq/apq/jpql/Operator$Kind" "ORDERING" "Lcom/example/apq/apq/jpql/Operator$Kind;" (.ref kORDERING) := ((((((((((((((P_S_Operator_Kind_ORDERING.ext E1).wr W19).wr W26).wr W33).wr W40).wr W47).wr W54).wr W61).wr W68).wr W75).wr W82).wr W89).wr W96).wr W103)
    have f157 : n0 ≤ h103.size := (Nat.le_trans (Nat.le_trans (Nat.le_trans (Nat.le_trans (Nat.le_trans (Nat.le_trans (Nat.le_trans (Nat.le_trans (Nat.le_trans (Nat.le_trans (Nat.le_trans (Nat.le_trans (Nat.le_trans (Nat.le_trans Z0 E1.1) (Keep.of_wr W19).1) (Keep.of_wr W26).1) (Keep.of_wr W33).1) (Keep.of_wr W40).1) (Keep.of_wr W47).1) (Keep.of_wr W54).1) (Keep.of_wr W61).1) (Keep.of_wr W68).1) (Keep.of_wr W75).1) (Keep.of_wr W82).1) (Keep.of_wr W89).1) (Keep.of_wr W96).1) (Keep.of_wr W103).1)
    have f159 : Exa Z h103 wLESS_OR_EQUAL "com/example/apq/apq/jpql/Operator" := (((((((f59.wr W61).wr W68).wr W75).wr W82).wr W89).wr W96).wr W103)
    obtain ⟨cq160, kq160, q160a, q160b, q160c⟩ := isOf hZ e103 f159
    obtain ⟨_, _, ⟨T158, L158, k158, n158⟩, -, X158, ⟨Lc158, hQ158, l158, y158, z158⟩, st158⟩ := X103.virtualBack hx (y := (⟨"com/example/apq/apq/jpql/Operator", "compares", "()Z"⟩ : MethodName)) (z := (⟨"com/example/apq/apq/jpql/Operator", "compares", "()Z"⟩ : MethodName)) hown (mvT hZ (hw _ (List.mem_of_getElem? (i := 31) rfl))) (mvT hZ (hw _ (List.mem_of_getElem? (i := 32) rfl))) (notFace_of_selects (args := #[]) (mvT hZ (hw _ (List.mem_of_getElem? (i := 34) rfl)))) (mvT hZ (hw _ (List.mem_of_getElem? (i := 34) rfl))) (mvT hZ (hw _ (List.mem_of_getElem? (i := 33) rfl))) (by decide) (backOf (W := 0) (rmO l Z a0 hw [] wLESS_OR_EQUAL kEQUALITY kORDERING h103 n0 f157 f154 f155 f156 ne_ORDERING_EQUALITY) hZ (hw _ (List.mem_of_getElem? (i := 35) rfl)) (hw _ (List.mem_of_getElem? (i := 3) rfl)) (by decide) (by decide)) q160a q160c (g := (mkF m 119 #[.val (.int p0), .val (.ref b1), .val (.int (6 : Int32)), .val (.int (1 : Int32))] [(.ref wLESS_OR_EQUAL)])) rfl (by rw [hml]; rfl) (Steps.refl _) (argsL := []) (rest := []) (lenOf pd___Z rfl) rfl (by show 2 * 0 + _ ≤ _; exact Nat.le_of_eq rfl) (hb hby at_119) (fun _ _ => ⟨rfl, e103, (by decide : 1 + 0 ≤ _), (by decide : 13 + 0 ≤ _)⟩)
    dsimp only [Pt.U, Pt.locs, Pt.cells, Pt.slots] at X158 l158 y158 z158 st158 hQ158
    subst l158 y158 z158
    obtain ⟨rfl, N158q, e158⟩ := hQ158
    have N158 := Fr.app N104 N158q
    obtain ⟨fs, hr, hrun, hended, hW, hsame⟩ := X158.leave (v := some (.int (1 : Int32))) (fun h => by rw [Bd.returns] at h; cases h)
    refine ⟨_, _, pre106 _ ?_, hrun, hended, _, _, rfl, ?_, ⟨_, rfl⟩, hW, hsame.mono (by decide) (by decide)⟩
    · show Steps p.tables e below (T103.setTop (mkF m 99 #[.val (.int p0), .val (.ref b1), .val (.int (6 : Int32)), .unset] [])) _
      refine XS.iloadN X103.here hx rfl (hb hby at_99) rfl ?_
      show Steps p.tables e below (T103.setTop (mkF m 100 #[.val (.int p0), .val (.ref b1), .val (.int (6 : Int32)), .unset] [(.int (6 : Int32))])) _
      refine XS.iconst X103.here hx rfl (hb hby at_100) ?_
      show Steps p.tables e below (T103.setTop (mkF m 101 #[.val (.int p0), .val (.ref b1), .val (.int (6 : Int32)), .unset] [(.int (3 : Int32)), (.int (6 : Int32))])) _
      refine XS.icmpNo X103.here hx rfl (hb hby at_101) rfl (flt (by decide : ¬ ((6 : Int32) < (3 : Int32)))).1 ?_
      show Steps p.tables e below (T103.setTop (mkF m 104 #[.val (.int p0), .val (.ref b1), .val (.int (6 : Int32)), .unset] [])) _
      refine XS.iloadN X103.here hx rfl (hb hby at_104) rfl ?_
      show Steps p.tables e below (T103.setTop (mkF m 105 #[.val (.int p0), .val (.ref b1), .val (.int (6 : Int32)), .unset] [(.int (6 : Int32))])) _
      refine XS.bipush X103.here hx rfl (hb hby at_105) ?_
      show Steps p.tables e below (T103.setTop (mkF m 107 #[.val (.int p0), .val (.ref b1), .val (.int (6 : Int32)), .unset] [(.int (8 : Int32)), (.int (6 : Int32))])) _
      refine XS.icmpNo X103.here hx rfl (hb hby at_107) rfl (flt (by decide : ¬ ((8 : Int32) < (6 : Int32)))).2.2.1 ?_
      show Steps p.tables e below (T103.setTop (mkF m 110 #[.val (.int p0), .val (.ref b1), .val (.int (6 : Int32)), .unset] [])) _
      refine XS.iconst X103.here hx rfl (hb hby at_110) ?_
      show Steps p.tables e below (T103.setTop (mkF m 111 #[.val (.int p0), .val (.ref b1), .val (.int (6 : Int32)), .unset] [(.int (1 : Int32))])) _
      refine XS.goto X103.here hx rfl (pc0 := 111) (pc' := 115) rfl (hb hby at_111) (by decide) (by decide) ?_
      show Steps p.tables e below (T103.setTop (mkF m 115 #[.val (.int p0), .val (.ref b1), .val (.int (6 : Int32)), .unset] [(.int (1 : Int32))])) _
      refine XS.istoreN X103.here hx rfl (hb hby at_115) rfl (l' := #[.val (.int p0), .val (.ref b1), .val (.int (6 : Int32)), .val (.int (1 : Int32))]) rfl ?_
      show Steps p.tables e below (T103.setTop (mkF m 116 #[.val (.int p0), .val (.ref b1), .val (.int (6 : Int32)), .val (.int (1 : Int32))] [])) _
      refine XS.aloadN X103.here hx rfl (hb hby at_116) rfl rfl ?_
      show Steps p.tables e below (T103.setTop (mkF m 117 #[.val (.int p0), .val (.ref b1), .val (.int (6 : Int32)), .val (.int (1 : Int32))] [(.ref b1)])) _
      refine XS.iloadN X103.here hx rfl (hb hby at_117) rfl ?_
      show Steps p.tables e below (T103.setTop (mkF m 118 #[.val (.int p0), .val (.ref b1), .val (.int (6 : Int32)), .val (.int (1 : Int32))] [(.int (6 : Int32)), (.ref b1)])) _
      refine X103.aaload hx (j := (6 : Int32)) (v := (.ref wLESS_OR_EQUAL)) (by rw [e103]; exact Ar153.1) (State.isArrayOf_alike hZ.alike Ar153.2.1) rfl Ar153.2.2 hin153 hat153 (g := (mkF m 118 #[.val (.int p0), .val (.ref b1), .val (.int (6 : Int32)), .val (.int (1 : Int32))] [(.int (6 : Int32)), (.ref b1)])) rfl rfl (hb hby at_118) _ ?_
      show Steps p.tables e below (T103.setTop (mkF m 119 #[.val (.int p0), .val (.ref b1), .val (.int (6 : Int32)), .val (.int (1 : Int32))] [(.ref wLESS_OR_EQUAL)])) _
      refine st158.trans ?_
      show Steps p.tables e below (T158.setTop (mkF m 122 #[.val (.int p0), .val (.ref b1), .val (.int (6 : Int32)), .val (.int (1 : Int32))] [(.int (1 : Int32))])) _
      refine XS.iloadN X158.here hx rfl (hb hby at_122) rfl ?_
      show Steps p.tables e below (T158.setTop (mkF m 123 #[.val (.int p0), .val (.ref b1), .val (.int (6 : Int32)), .val (.int (1 : Int32))] [(.int (1 : Int32)), (.int (1 : Int32))])) _
      refine XS.icmpNo X158.here hx rfl (hb hby at_123) rfl (teq (by decide : (1 : Int32) = (1 : Int32))).2 ?_
      show Steps p.tables e below (T158.setTop (mkF m 126 #[.val (.int p0), .val (.ref b1), .val (.int (6 : Int32)), .val (.int (1 : Int32))] [])) _
      refine XS.iconst X158.here hx rfl (hb hby at_126) ?_
      show Steps p.tables e below (T158.setTop (mkF m 127 #[.val (.int p0), .val (.ref b1), .val (.int (6 : Int32)), .val (.int (1 : Int32))] [(.int (1 : Int32))])) _
      refine XS.goto X158.here hx rfl (pc0 := 127) (pc' := 131) rfl (hb hby at_127) (by decide) (by decide) ?_
      show Steps p.tables e below (T158.setTop (mkF m 131 #[.val (.int p0), .val (.ref b1), .val (.int (6 : Int32)), .val (.int (1 : Int32))] [(.int (1 : Int32))])) _
      exact retN X158 hx (t := .boolean) Bd.returns (by simp) (hb hby at_131) hr
    · show own_Q0 n0 _ T158.heap _
      rw [e158]
      exact ⟨rfl, N158⟩
  · rw [hi] at pre106
    obtain ⟨cl161, Ar161, q161, S161, N161_, H161, G161⟩ := V103
    have hin161 : ¬ ((7 : Int32) < 0 ∨ cl161.slots.size ≤ ((7 : Int32)).toNatClampNeg) := inb_of S161 ⟨by decide, by decide⟩
    have hat161 : cl161.slots[((7 : Int32)).toNatClampNeg]? = some (.ref wGREATER) := H161.at hin161 rfl
    have f162 : Fld Z h103 wGREATER "com/example/apq/apq/jpql/Operator" "kind" "Lcom/example/apq/apq/jpql/Operator$Kind;" (.ref kORDERING) := ((((((((((((((P_F_wGREATER_Operator_kind.ext E1).other W19 (Or.inl ne9)).other W26 (Or.inl ne9)).other W33 (Or.inl ne9)).other W40 (Or.inl ne9)).other W47 (Or.inl ne9)).other W54 (Or.inl ne9)).other W61 (Or.inl ne9)).other W68 (Or.inl ne9)).other W75 (Or.inl ne9)).other W82 (Or.inl ne9)).other W89 (Or.inl ne9)).other W96 (Or.inl ne9)).other W103 (Or.inl ne9))
    have f163 : Sta Z h103 "com/example/apq/apq/jpql/Operator$Kind" "EQUALITY" "Lcom/example/apq/apq/jpql/Operator$Kind;" (.ref kEQUALITY) := ((((((((((((((P_S_Operator_Kind_EQUALITY.ext E1).wr W19).wr W26).wr W33).wr W40).wr W47).wr W54).wr W61).wr W68).wr W75).wr W82).wr W89).wr W96).wr W103)
    have f164 : Sta Z h103 "com/example/apq/apq/jpql/Operator$Kind" "ORDERING" "Lcom/example/apq/apq/jpql/Operator$Kind;" (.ref kORDERING) := ((((((((((((((P_S_Operator_Kind_ORDERING.ext E1).wr W19).wr W26).wr W33).wr W40).wr W47).wr W54).wr W61).wr W68).wr W75).wr W82).wr W89).wr W96).wr W103)
    have f165 : n0 ≤ h103.size := (Nat.le_trans (Nat.le_trans (Nat.le_trans (Nat.le_trans (Nat.le_trans (Nat.le_trans (Nat.le_trans (Nat.le_trans (Nat.le_trans (Nat.le_trans (Nat.le_trans (Nat.le_trans (Nat.le_trans (Nat.le_trans Z0 E1.1) (Keep.of_wr W19).1) (Keep.of_wr W26).1) (Keep.of_wr W33).1) (Keep.of_wr W40).1) (Keep.of_wr W47).1) (Keep.of_wr W54).1) (Keep.of_wr W61).1) (Keep.of_wr W68).1) (Keep.of_wr W75).1) (Keep.of_wr W82).1) (Keep.of_wr W89).1) (Keep.of_wr W96).1) (Keep.of_wr W103).1)
    have f167 : Exa Z h103 wGREATER "com/example/apq/apq/jpql/Operator" := ((((((f66.wr W68).wr W75).wr W82).wr W89).wr W96).wr W103)
    obtain ⟨cq168, kq168, q168a, q168b, q168c⟩ := isOf hZ e103 f167
    obtain ⟨_, _, ⟨T166, L166, k166, n166⟩, -, X166, ⟨Lc166, hQ166, l166, y166, z166⟩, st166⟩ := X103.virtualBack hx (y := (⟨"com/example/apq/apq/jpql/Operator", "compares", "()Z"⟩ : MethodName)) (z := (⟨"com/example/apq/apq/jpql/Operator", "compares", "()Z"⟩ : MethodName)) hown (mvT hZ (hw _ (List.mem_of_getElem? (i := 31) rfl))) (mvT hZ (hw _ (List.mem_of_getElem? (i := 32) rfl))) (notFace_of_selects (args := #[]) (mvT hZ (hw _ (List.mem_of_getElem? (i := 34) rfl)))) (mvT hZ (hw _ (List.mem_of_getElem? (i := 34) rfl))) (mvT hZ (hw _ (List.mem_of_getElem? (i := 33) rfl))) (by decide) (backOf (W := 0) (rmO l Z a0 hw [] wGREATER kEQUALITY kORDERING h103 n0 f165 f162 f163 f164 ne_ORDERING_EQUALITY) hZ (hw _ (List.mem_of_getElem? (i := 35) rfl)) (hw _ (List.mem_of_getElem? (i := 3) rfl)) (by decide) (by decide)) q168a q168c (g := (mkF m 119 #[.val (.int p0), .val (.ref b1), .val (.int (7 : Int32)), .val (.int (1 : Int32))] [(.ref wGREATER)])) rfl (by rw [hml]; rfl) (Steps.refl _) (argsL := []) (rest := []) (lenOf pd___Z rfl) rfl (by show 2 * 0 + _ ≤ _; exact Nat.le_of_eq rfl) (hb hby at_119) (fun _ _ => ⟨rfl, e103, (by decide : 1 + 0 ≤ _), (by decide : 13 + 0 ≤ _)⟩)
    dsimp only [Pt.U, Pt.locs, Pt.cells, Pt.slots] at X166 l166 y166 z166 st166 hQ166
    subst l166 y166 z166
    obtain ⟨rfl, N166q, e166⟩ := hQ166
    have N166 := Fr.app N104 N166q
    obtain ⟨fs, hr, hrun, hended, hW, hsame⟩ := X166.leave (v := some (.int (1 : Int32))) (fun h => by rw [Bd.returns] at h; cases h)
    refine ⟨_, _, pre106 _ ?_, hrun, hended, _, _, rfl, ?_, ⟨_, rfl⟩, hW, hsame.mono (by decide) (by decide)⟩
    · show Steps p.tables e below (T103.setTop (mkF m 99 #[.val (.int p0), .val (.ref b1), .val (.int (7 : Int32)), .unset] [])) _
      refine XS.iloadN X103.here hx rfl (hb hby at_99) rfl ?_
      show Steps p.tables e below (T103.setTop (mkF m 100 #[.val (.int p0), .val (.ref b1), .val (.int (7 : Int32)), .unset] [(.int (7 : Int32))])) _
      refine XS.iconst X103.here hx rfl (hb hby at_100) ?_
      show Steps p.tables e below (T103.setTop (mkF m 101 #[.val (.int p0), .val (.ref b1), .val (.int (7 : Int32)), .unset] [(.int (3 : Int32)), (.int (7 : Int32))])) _
      refine XS.icmpNo X103.here hx rfl (hb hby at_101) rfl (flt (by decide : ¬ ((7 : Int32) < (3 : Int32)))).1 ?_
      show Steps p.tables e below (T103.setTop (mkF m 104 #[.val (.int p0), .val (.ref b1), .val (.int (7 : Int32)), .unset] [])) _
      refine XS.iloadN X103.here hx rfl (hb hby at_104) rfl ?_
      show Steps p.tables e below (T103.setTop (mkF m 105 #[.val (.int p0), .val (.ref b1), .val (.int (7 : Int32)), .unset] [(.int (7 : Int32))])) _
      refine XS.bipush X103.here hx rfl (hb hby at_105) ?_
      show Steps p.tables e below (T103.setTop (mkF m 107 #[.val (.int p0), .val (.ref b1), .val (.int (7 : Int32)), .unset] [(.int (8 : Int32)), (.int (7 : Int32))])) _
      refine XS.icmpNo X103.here hx rfl (hb hby at_107) rfl (flt (by decide : ¬ ((8 : Int32) < (7 : Int32)))).2.2.1 ?_
      show Steps p.tables e below (T103.setTop (mkF m 110 #[.val (.int p0), .val (.ref b1), .val (.int (7 : Int32)), .unset] [])) _
      refine XS.iconst X103.here hx rfl (hb hby at_110) ?_
      show Steps p.tables e below (T103.setTop (mkF m 111 #[.val (.int p0), .val (.ref b1), .val (.int (7 : Int32)), .unset] [(.int (1 : Int32))])) _
      refine XS.goto X103.here hx rfl (pc0 := 111) (pc' := 115) rfl (hb hby at_111) (by decide) (by decide) ?_
      show Steps p.tables e below (T103.setTop (mkF m 115 #[.val (.int p0), .val (.ref b1), .val (.int (7 : Int32)), .unset] [(.int (1 : Int32))])) _
      refine XS.istoreN X103.here hx rfl (hb hby at_115) rfl (l' := #[.val (.int p0), .val (.ref b1), .val (.int (7 : Int32)), .val (.int (1 : Int32))]) rfl ?_
      show Steps p.tables e below (T103.setTop (mkF m 116 #[.val (.int p0), .val (.ref b1), .val (.int (7 : Int32)), .val (.int (1 : Int32))] [])) _
      refine XS.aloadN X103.here hx rfl (hb hby at_116) rfl rfl ?_
      show Steps p.tables e below (T103.setTop (mkF m 117 #[.val (.int p0), .val (.ref b1), .val (.int (7 : Int32)), .val (.int (1 : Int32))] [(.ref b1)])) _
      refine XS.iloadN X103.here hx rfl (hb hby at_117) rfl ?_
      show Steps p.tables e below (T103.setTop (mkF m 118 #[.val (.int p0), .val (.ref b1), .val (.int (7 : Int32)), .val (.int (1 : Int32))] [(.int (7 : Int32)), (.ref b1)])) _
      refine X103.aaload hx (j := (7 : Int32)) (v := (.ref wGREATER)) (by rw [e103]; exact Ar161.1) (State.isArrayOf_alike hZ.alike Ar161.2.1) rfl Ar161.2.2 hin161 hat161 (g := (mkF m 118 #[.val (.int p0), .val (.ref b1), .val (.int (7 : Int32)), .val (.int (1 : Int32))] [(.int (7 : Int32)), (.ref b1)])) rfl rfl (hb hby at_118) _ ?_
      show Steps p.tables e below (T103.setTop (mkF m 119 #[.val (.int p0), .val (.ref b1), .val (.int (7 : Int32)), .val (.int (1 : Int32))] [(.ref wGREATER)])) _
      refine st166.trans ?_
      show Steps p.tables e below (T166.setTop (mkF m 122 #[.val (.int p0), .val (.ref b1), .val (.int (7 : Int32)), .val (.int (1 : Int32))] [(.int (1 : Int32))])) _
      refine XS.iloadN X166.here hx rfl (hb hby at_122) rfl ?_
      show Steps p.tables e below (T166.setTop (mkF m 123 #[.val (.int p0), .val (.ref b1), .val (.int (7 : Int32)), .val (.int (1 : Int32))] [(.int (1 : Int32)), (.int (1 : Int32))])) _
      refine XS.icmpNo X166.here hx rfl (hb hby at_123) rfl (teq (by decide : (1 : Int32) = (1 : Int32))).2 ?_
      show Steps p.tables e below (T166.setTop (mkF m 126 #[.val (.int p0), .val (.ref b1), .val (.int (7 : Int32)), .val (.int (1 : Int32))] [])) _
      refine XS.iconst X166.here hx rfl (hb hby at_126) ?_
      show Steps p.tables e below (T166.setTop (mkF m 127 #[.val (.int p0), .val (.ref b1), .val (.int (7 : Int32)), .val (.int (1 : Int32))] [(.int (1 : Int32))])) _
      refine XS.goto X166.here hx rfl (pc0 := 127) (pc' := 131) rfl (hb hby at_127) (by decide) (by decide) ?_
      show Steps p.tables e below (T166.setTop (mkF m 131 #[.val (.int p0), .val (.ref b1), .val (.int (7 : Int32)), .val (.int (1 : Int32))] [(.int (1 : Int32))])) _
      exact retN X166 hx (t := .boolean) Bd.returns (by simp) (hb hby at_131) hr
    · show own_Q0 n0 _ T166.heap _
      rw [e166]
      exact ⟨rfl, N166⟩
  · rw [hi] at pre106
    obtain ⟨cl169, Ar169, q169, S169, N169_, H169, G169⟩ := V103
    have hin169 : ¬ ((8 : Int32) < 0 ∨ cl169.slots.size ≤ ((8 : Int32)).toNatClampNeg) := inb_of S169 ⟨by decide, by decide⟩
    have hat169 : cl169.slots[((8 : Int32)).toNatClampNeg]? = some (.ref wGREATER_OR_EQUAL) := H169.at hin169 rfl
    have f170 : Fld Z h103 wGREATER_OR_EQUAL "com/example/apq/apq/jpql/Operator" "kind" "Lcom/example/apq/apq/jpql/Operator$Kind;" (.ref kORDERING) := ((((((((((((((P_F_wGREATER_OR_EQUAL_Operator_kind.ext E1).other W19 (Or.inl ne10)).other W26 (Or.inl ne10)).other W33 (Or.inl ne10)).other W40 (Or.inl ne10)).other W47 (Or.inl ne10)).other W54 (Or.inl ne10)).other W61 (Or.inl ne10)).other W68 (Or.inl ne10)).other W75 (Or.inl ne10)).other W82 (Or.inl ne10)).other W89 (Or.inl ne10)).other W96 (Or.inl ne10)).other W103 (Or.inl ne10))
    have f171 : Sta Z h103 "com/example/apq/apq/jpql/Operator$Kind" "EQUALITY" "Lcom/example/apq/apq/jpql/Operator$Kind;" (.ref kEQUALITY) := ((((((((((((((P_S_Operator_Kind_EQUALITY.ext E1).wr W19).wr W26).wr W33).wr W40).wr W47).wr W54).wr W61).wr W68).wr W75).wr W82).wr W89).wr W96).wr W103)
    have f172 : Sta Z h103 "com/example/apq/apq/jpql/Operator$Kind" "ORDERING" "Lcom/example/apq/apq/jpql/Operator$Kind;" (.ref kORDERING) := ((((((((((((((P_S_Operator_Kind_ORDERING.ext E1).wr W19).wr W26).wr W33).wr W40).wr W47).wr W54).wr W61).wr W68).wr W75).wr W82).wr W89).wr W96).wr W103)
    have f173 : n0 ≤ h103.size := (Nat.le_trans (Nat.le_trans (Nat.le_trans (Nat.le_trans (Nat.le_trans (Nat.le_trans (Nat.le_trans (Nat.le_trans (Nat.le_trans (Nat.le_trans (Nat.le_trans (Nat.le_trans (Nat.le_trans (Nat.le_trans Z0 E1.1) (Keep.of_wr W19).1) (Keep.of_wr W26).1) (Keep.of_wr W33).1) (Keep.of_wr W40).1) (Keep.of_wr W47).1) (Keep.of_wr W54).1) (Keep.of_wr W61).1) (Keep.of_wr W68).1) (Keep.of_wr W75).1) (Keep.of_wr W82).1) (Keep.of_wr W89).1) (Keep.of_wr W96).1) (Keep.of_wr W103).1)
    have f175 : Exa Z h103 wGREATER_OR_EQUAL "com/example/apq/apq/jpql/Operator" := (((((f73.wr W75).wr W82).wr W89).wr W96).wr W103)
    obtain ⟨cq176, kq176, q176a, q176b, q176c⟩ := isOf hZ e103 f175
    obtain ⟨_, _, ⟨T174, L174, k174, n174⟩, -, X174, ⟨Lc174, hQ174, l174, y174, z174⟩, st174⟩ := X103.virtualBack hx (y := (⟨"com/example/apq/apq/jpql/Operator", "compares", "()Z"⟩ : MethodName)) (z := (⟨"com/example/apq/apq/jpql/Operator", "compares", "()Z"⟩ : MethodName)) hown (mvT hZ (hw _ (List.mem_of_getElem? (i := 31) rfl))) (mvT hZ (hw _ (List.mem_of_getElem? (i := 32) rfl))) (notFace_of_selects (args := #[]) (mvT hZ (hw _ (List.mem_of_getElem? (i := 34) rfl)))) (mvT hZ (hw _ (List.mem_of_getElem? (i := 34) rfl))) (mvT hZ (hw _ (List.mem_of_getElem? (i := 33) rfl))) (by decide) (backOf (W := 0) (rmO l Z a0 hw [] wGREATER_OR_EQUAL kEQUALITY kORDERING h103 n0 f173 f170 f171 f172 ne_ORDERING_EQUALITY) hZ (hw _ (List.mem_of_getElem? (i := 35) rfl)) (hw _ (List.mem_of_getElem? (i := 3) rfl)) (by decide) (by decide)) q176a q176c (g := (mkF m 119 #[.val (.int p0), .val (.ref b1), .val (.int (8 : Int32)), .val (.int (1 : Int32))] [(.ref wGREATER_OR_EQUAL)])) rfl (by rw [hml]; rfl) (Steps.refl _) (argsL := []) (rest := []) (lenOf pd___Z rfl) rfl (by show 2 * 0 + _ ≤ _; exact Nat.le_of_eq rfl) (hb hby at_119) (fun _ _ => ⟨rfl, e103, (by decide : 1 + 0 ≤ _), (by decide : 13 + 0 ≤ _)⟩)
    dsimp only [Pt.U, Pt.locs, Pt.cells, Pt.slots] at X174 l174 y174 z174 st174 hQ174
    subst l174 y174 z174
    obtain ⟨rfl, N174q, e174⟩ := hQ174
    have N174 := Fr.app N104 N174q
    obtain ⟨fs, hr, hrun, hended, hW, hsame⟩ := X174.leave (v := some (.int (1 : Int32))) (fun h => by rw [Bd.returns] at h; cases h)
    refine ⟨_, _, pre106 _ ?_, hrun, hended, _, _, rfl, ?_, ⟨_, rfl⟩, hW, hsame.mono (by decide) (by decide)⟩
    · show Steps p.tables e below (T103.setTop (mkF m 99 #[.val (.int p0), .val (.ref b1), .val (.int (8 : Int32)), .unset] [])) _
      refine XS.iloadN X103.here hx rfl (hb hby at_99) rfl ?_
      show Steps p.tables e below (T103.setTop (mkF m 100 #[.val (.int p0), .val (.ref b1), .val (.int (8 : Int32)), .unset] [(.int (8 : Int32))])) _
      refine XS.iconst X103.here hx rfl (hb hby at_100) ?_
      show Steps p.tables e below (T103.setTop (mkF m 101 #[.val (.int p0), .val (.ref b1), .val (.int (8 : Int32)), .unset] [(.int (3 : Int32)), (.int (8 : Int32))])) _
      refine XS.icmpNo X103.here hx rfl (hb hby at_101) rfl (flt (by decide : ¬ ((8 : Int32) < (3 : Int32)))).1 ?_
      show Steps p.tables e below (T103.setTop (mkF m 104 #[.val (.int p0), .val (.ref b1), .val (.int (8 : Int32)), .unset] [])) _
      refine XS.iloadN X103.here hx rfl (hb hby at_104) rfl ?_
      show Steps p.tables e below (T103.setTop (mkF m 105 #[.val (.int p0), .val (.ref b1), .val (.int (8 : Int32)), .unset] [(.int (8 : Int32))])) _
      refine XS.bipush X103.here hx rfl (hb hby at_105) ?_
      show Steps p.tables e below (T103.setTop (mkF m 107 #[.val (.int p0), .val (.ref b1), .val (.int (8 : Int32)), .unset] [(.int (8 : Int32)), (.int (8 : Int32))])) _
      refine XS.icmpNo X103.here hx rfl (hb hby at_107) rfl (flt (by decide : ¬ ((8 : Int32) < (8 : Int32)))).2.2.1 ?_
      show Steps p.tables e below (T103.setTop (mkF m 110 #[.val (.int p0), .val (.ref b1), .val (.int (8 : Int32)), .unset] [])) _
      refine XS.iconst X103.here hx rfl (hb hby at_110) ?_
      show Steps p.tables e below (T103.setTop (mkF m 111 #[.val (.int p0), .val (.ref b1), .val (.int (8 : Int32)), .unset] [(.int (1 : Int32))])) _
      refine XS.goto X103.here hx rfl (pc0 := 111) (pc' := 115) rfl (hb hby at_111) (by decide) (by decide) ?_
      show Steps p.tables e below (T103.setTop (mkF m 115 #[.val (.int p0), .val (.ref b1), .val (.int (8 : Int32)), .unset] [(.int (1 : Int32))])) _
      refine XS.istoreN X103.here hx rfl (hb hby at_115) rfl (l' := #[.val (.int p0), .val (.ref b1), .val (.int (8 : Int32)), .val (.int (1 : Int32))]) rfl ?_
      show Steps p.tables e below (T103.setTop (mkF m 116 #[.val (.int p0), .val (.ref b1), .val (.int (8 : Int32)), .val (.int (1 : Int32))] [])) _
      refine XS.aloadN X103.here hx rfl (hb hby at_116) rfl rfl ?_
      show Steps p.tables e below (T103.setTop (mkF m 117 #[.val (.int p0), .val (.ref b1), .val (.int (8 : Int32)), .val (.int (1 : Int32))] [(.ref b1)])) _
      refine XS.iloadN X103.here hx rfl (hb hby at_117) rfl ?_
      show Steps p.tables e below (T103.setTop (mkF m 118 #[.val (.int p0), .val (.ref b1), .val (.int (8 : Int32)), .val (.int (1 : Int32))] [(.int (8 : Int32)), (.ref b1)])) _
      refine X103.aaload hx (j := (8 : Int32)) (v := (.ref wGREATER_OR_EQUAL)) (by rw [e103]; exact Ar169.1) (State.isArrayOf_alike hZ.alike Ar169.2.1) rfl Ar169.2.2 hin169 hat169 (g := (mkF m 118 #[.val (.int p0), .val (.ref b1), .val (.int (8 : Int32)), .val (.int (1 : Int32))] [(.int (8 : Int32)), (.ref b1)])) rfl rfl (hb hby at_118) _ ?_
      show Steps p.tables e below (T103.setTop (mkF m 119 #[.val (.int p0), .val (.ref b1), .val (.int (8 : Int32)), .val (.int (1 : Int32))] [(.ref wGREATER_OR_EQUAL)])) _
      refine st174.trans ?_
      show Steps p.tables e below (T174.setTop (mkF m 122 #[.val (.int p0), .val (.ref b1), .val (.int (8 : Int32)), .val (.int (1 : Int32))] [(.int (1 : Int32))])) _
      refine XS.iloadN X174.here hx rfl (hb hby at_122) rfl ?_
      show Steps p.tables e below (T174.setTop (mkF m 123 #[.val (.int p0), .val (.ref b1), .val (.int (8 : Int32)), .val (.int (1 : Int32))] [(.int (1 : Int32)), (.int (1 : Int32))])) _
      refine XS.icmpNo X174.here hx rfl (hb hby at_123) rfl (teq (by decide : (1 : Int32) = (1 : Int32))).2 ?_
      show Steps p.tables e below (T174.setTop (mkF m 126 #[.val (.int p0), .val (.ref b1), .val (.int (8 : Int32)), .val (.int (1 : Int32))] [])) _
      refine XS.iconst X174.here hx rfl (hb hby at_126) ?_
      show Steps p.tables e below (T174.setTop (mkF m 127 #[.val (.int p0), .val (.ref b1), .val (.int (8 : Int32)), .val (.int (1 : Int32))] [(.int (1 : Int32))])) _
      refine XS.goto X174.here hx rfl (pc0 := 127) (pc' := 131) rfl (hb hby at_127) (by decide) (by decide) ?_
      show Steps p.tables e below (T174.setTop (mkF m 131 #[.val (.int p0), .val (.ref b1), .val (.int (8 : Int32)), .val (.int (1 : Int32))] [(.int (1 : Int32))])) _
      exact retN X174 hx (t := .boolean) Bd.returns (by simp) (hb hby at_131) hr
    · show own_Q0 n0 _ T174.heap _
      rw [e174]
      exact ⟨rfl, N174⟩
  · rw [hi] at pre106
    obtain ⟨cl177, Ar177, q177, S177, N177_, H177, G177⟩ := V103
    have hin177 : ¬ ((9 : Int32) < 0 ∨ cl177.slots.size ≤ ((9 : Int32)).toNatClampNeg) := inb_of S177 ⟨by decide, by decide⟩
    have hat177 : cl177.slots[((9 : Int32)).toNatClampNeg]? = some (.ref wPLUS) := H177.at hin177 rfl
    have f178 : Fld Z h103 wPLUS "com/example/apq/apq/jpql/Operator" "kind" "Lcom/example/apq/apq/jpql/Operator$Kind;" (.ref kADDITIVE) := ((((((((((((((P_F_wPLUS_Operator_kind.ext E1).other W19 (Or.inl ne11)).other W26 (Or.inl ne11)).other W33 (Or.inl ne11)).other W40 (Or.inl ne11)).other W47 (Or.inl ne11)).other W54 (Or.inl ne11)).other W61 (Or.inl ne11)).other W68 (Or.inl ne11)).other W75 (Or.inl ne11)).other W82 (Or.inl ne11)).other W89 (Or.inl ne11)).other W96 (Or.inl ne11)).other W103 (Or.inl ne11))
    have f179 : Sta Z h103 "com/example/apq/apq/jpql/Operator$Kind" "EQUALITY" "Lcom/example/apq/apq/jpql/Operator$Kind;" (.ref kEQUALITY) := ((((((((((((((P_S_Operator_Kind_EQUALITY.ext E1).wr W19).wr W26).wr W33).wr W40).wr W47).wr W54).wr W61).wr W68).wr W75).wr W82).wr W89).wr W96).wr W103)
    have f180 : Sta Z h103 "com/example/apq/apq/jpql/Operator$Kind" "ORDERING" "Lcom/example/apq/apq/jpql/Operator$Kind;" (.ref kORDERING) := ((((((((((((((P_S_Operator_Kind_ORDERING.ext E1).wr W19).wr W26).wr W33).wr W40).wr W47).wr W54).wr W61).wr W68).wr W75).wr W82).wr W89).wr W96).wr W103)
    have f181 : n0 ≤ h103.size := (Nat.le_trans (Nat.le_trans (Nat.le_trans (Nat.le_trans (Nat.le_trans (Nat.le_trans (Nat.le_trans (Nat.le_trans (Nat.le_trans (Nat.le_trans (Nat.le_trans (Nat.le_trans (Nat.le_trans (Nat.le_trans Z0 E1.1) (Keep.of_wr W19).1) (Keep.of_wr W26).1) (Keep.of_wr W33).1) (Keep.of_wr W40).1) (Keep.of_wr W47).1) (Keep.of_wr W54).1) (Keep.of_wr W61).1) (Keep.of_wr W68).1) (Keep.of_wr W75).1) (Keep.of_wr W82).1) (Keep.of_wr W89).1) (Keep.of_wr W96).1) (Keep.of_wr W103).1)
    have f183 : Exa Z h103 wPLUS "com/example/apq/apq/jpql/Operator" := ((((f80.wr W82).wr W89).wr W96).wr W103)
    obtain ⟨cq184, kq184, q184a, q184b, q184c⟩ := isOf hZ e103 f183
    obtain ⟨_, _, ⟨T182, L182, k182, n182⟩, -, X182, ⟨Lc182, hQ182, l182, y182, z182⟩, st182⟩ := X103.virtualBack hx (y := (⟨"com/example/apq/apq/jpql/Operator", "compares", "()Z"⟩ : MethodName)) (z := (⟨"com/example/apq/apq/jpql/Operator", "compares", "()Z"⟩ : MethodName)) hown (mvT hZ (hw _ (List.mem_of_getElem? (i := 31) rfl))) (mvT hZ (hw _ (List.mem_of_getElem? (i := 32) rfl))) (notFace_of_selects (args := #[]) (mvT hZ (hw _ (List.mem_of_getElem? (i := 34) rfl)))) (mvT hZ (hw _ (List.mem_of_getElem? (i := 34) rfl))) (mvT hZ (hw _ (List.mem_of_getElem? (i := 33) rfl))) (by decide) (backOf (W := 0) (rmX l Z a0 hw [] wPLUS kADDITIVE kEQUALITY kORDERING h103 n0 f181 f178 f179 f180 ne_ADDITIVE_EQUALITY ne_ADDITIVE_ORDERING) hZ (hw _ (List.mem_of_getElem? (i := 35) rfl)) (hw _ (List.mem_of_getElem? (i := 3) rfl)) (by decide) (by decide)) q184a q184c (g := (mkF m 119 #[.val (.int p0), .val (.ref b1), .val (.int (9 : Int32)), .val (.int (0 : Int32))] [(.ref wPLUS)])) rfl (by rw [hml]; rfl) (Steps.refl _) (argsL := []) (rest := []) (lenOf pd___Z rfl) rfl (by show 2 * 0 + _ ≤ _; exact Nat.le_of_eq rfl) (hb hby at_119) (fun _ _ => ⟨rfl, e103, (by decide : 1 + 0 ≤ _), (by decide : 13 + 0 ≤ _)⟩)
    dsimp only [Pt.U, Pt.locs, Pt.cells, Pt.slots] at X182 l182 y182 z182 st182 hQ182
    subst l182 y182 z182
    obtain ⟨rfl, N182q, e182⟩ := hQ182
    have N182 := Fr.app N104 N182q
    obtain ⟨fs, hr, hrun, hended, hW, hsame⟩ := X182.leave (v := some (.int (1 : Int32))) (fun h => by rw [Bd.returns] at h; cases h)
    refine ⟨_, _, pre106 _ ?_, hrun, hended, _, _, rfl, ?_, ⟨_, rfl⟩, hW, hsame.mono (by decide) (by decide)⟩
    · show Steps p.tables e below (T103.setTop (mkF m 99 #[.val (.int p0), .val (.ref b1), .val (.int (9 : Int32)), .unset] [])) _
      refine XS.iloadN X103.here hx rfl (hb hby at_99) rfl ?_
      show Steps p.tables e below (T103.setTop (mkF m 100 #[.val (.int p0), .val (.ref b1), .val (.int (9 : Int32)), .unset] [(.int (9 : Int32))])) _
      refine XS.iconst X103.here hx rfl (hb hby at_100) ?_
      show Steps p.tables e below (T103.setTop (mkF m 101 #[.val (.int p0), .val (.ref b1), .val (.int (9 : Int32)), .unset] [(.int (3 : Int32)), (.int (9 : Int32))])) _
      refine XS.icmpNo X103.here hx rfl (hb hby at_101) rfl (flt (by decide : ¬ ((9 : Int32) < (3 : Int32)))).1 ?_
      show Steps p.tables e below (T103.setTop (mkF m 104 #[.val (.int p0), .val (.ref b1), .val (.int (9 : Int32)), .unset] [])) _
      refine XS.iloadN X103.here hx rfl (hb hby at_104) rfl ?_
      show Steps p.tables e below (T103.setTop (mkF m 105 #[.val (.int p0), .val (.ref b1), .val (.int (9 : Int32)), .unset] [(.int (9 : Int32))])) _
      refine XS.bipush X103.here hx rfl (hb hby at_105) ?_
      show Steps p.tables e below (T103.setTop (mkF m 107 #[.val (.int p0), .val (.ref b1), .val (.int (9 : Int32)), .unset] [(.int (8 : Int32)), (.int (9 : Int32))])) _
      refine XS.icmpYes X103.here hx rfl (pc0 := 107) (pc' := 114) rfl (hb hby at_107) rfl (tlt (by decide : (8 : Int32) < (9 : Int32))).2.2.1 (by decide) (by decide) ?_
      show Steps p.tables e below (T103.setTop (mkF m 114 #[.val (.int p0), .val (.ref b1), .val (.int (9 : Int32)), .unset] [])) _
      refine XS.iconst X103.here hx rfl (hb hby at_114) ?_
      show Steps p.tables e below (T103.setTop (mkF m 115 #[.val (.int p0), .val (.ref b1), .val (.int (9 : Int32)), .unset] [(.int (0 : Int32))])) _
      refine XS.istoreN X103.here hx rfl (hb hby at_115) rfl (l' := #[.val (.int p0), .val (.ref b1), .val (.int (9 : Int32)), .val (.int (0 : Int32))]) rfl ?_
      show Steps p.tables e below (T103.setTop (mkF m 116 #[.val (.int p0), .val (.ref b1), .val (.int (9 : Int32)), .val (.int (0 : Int32))] [])) _
      refine XS.aloadN X103.here hx rfl (hb hby at_116) rfl rfl ?_
      show Steps p.tables e below (T103.setTop (mkF m 117 #[.val (.int p0), .val (.ref b1), .val (.int (9 : Int32)), .val (.int (0 : Int32))] [(.ref b1)])) _
      refine XS.iloadN X103.here hx rfl (hb hby at_117) rfl ?_
      show Steps p.tables e below (T103.setTop (mkF m 118 #[.val (.int p0), .val (.ref b1), .val (.int (9 : Int32)), .val (.int (0 : Int32))] [(.int (9 : Int32)), (.ref b1)])) _
      refine X103.aaload hx (j := (9 : Int32)) (v := (.ref wPLUS)) (by rw [e103]; exact Ar177.1) (State.isArrayOf_alike hZ.alike Ar177.2.1) rfl Ar177.2.2 hin177 hat177 (g := (mkF m 118 #[.val (.int p0), .val (.ref b1), .val (.int (9 : Int32)), .val (.int (0 : Int32))] [(.int (9 : Int32)), (.ref b1)])) rfl rfl (hb hby at_118) _ ?_
      show Steps p.tables e below (T103.setTop (mkF m 119 #[.val (.int p0), .val (.ref b1), .val (.int (9 : Int32)), .val (.int (0 : Int32))] [(.ref wPLUS)])) _
      refine st182.trans ?_
      show Steps p.tables e below (T182.setTop (mkF m 122 #[.val (.int p0), .val (.ref b1), .val (.int (9 : Int32)), .val (.int (0 : Int32))] [(.int (0 : Int32))])) _
      refine XS.iloadN X182.here hx rfl (hb hby at_122) rfl ?_
      show Steps p.tables e below (T182.setTop (mkF m 123 #[.val (.int p0), .val (.ref b1), .val (.int (9 : Int32)), .val (.int (0 : Int32))] [(.int (0 : Int32)), (.int (0 : Int32))])) _
      refine XS.icmpNo X182.here hx rfl (hb hby at_123) rfl (teq (by decide : (0 : Int32) = (0 : Int32))).2 ?_
      show Steps p.tables e below (T182.setTop (mkF m 126 #[.val (.int p0), .val (.ref b1), .val (.int (9 : Int32)), .val (.int (0 : Int32))] [])) _
      refine XS.iconst X182.here hx rfl (hb hby at_126) ?_
      show Steps p.tables e below (T182.setTop (mkF m 127 #[.val (.int p0), .val (.ref b1), .val (.int (9 : Int32)), .val (.int (0 : Int32))] [(.int (1 : Int32))])) _
      refine XS.goto X182.here hx rfl (pc0 := 127) (pc' := 131) rfl (hb hby at_127) (by decide) (by decide) ?_
      show Steps p.tables e below (T182.setTop (mkF m 131 #[.val (.int p0), .val (.ref b1), .val (.int (9 : Int32)), .val (.int (0 : Int32))] [(.int (1 : Int32))])) _
      exact retN X182 hx (t := .boolean) Bd.returns (by simp) (hb hby at_131) hr
    · show own_Q0 n0 _ T182.heap _
      rw [e182]
      exact ⟨rfl, N182⟩
  · rw [hi] at pre106
    obtain ⟨cl185, Ar185, q185, S185, N185_, H185, G185⟩ := V103
    have hin185 : ¬ ((10 : Int32) < 0 ∨ cl185.slots.size ≤ ((10 : Int32)).toNatClampNeg) := inb_of S185 ⟨by decide, by decide⟩
    have hat185 : cl185.slots[((10 : Int32)).toNatClampNeg]? = some (.ref wMINUS) := H185.at hin185 rfl
    have f186 : Fld Z h103 wMINUS "com/example/apq/apq/jpql/Operator" "kind" "Lcom/example/apq/apq/jpql/Operator$Kind;" (.ref kADDITIVE) := ((((((((((((((P_F_wMINUS_Operator_kind.ext E1).other W19 (Or.inl ne12)).other W26 (Or.inl ne12)).other W33 (Or.inl ne12)).other W40 (Or.inl ne12)).other W47 (Or.inl ne12)).other W54 (Or.inl ne12)).other W61 (Or.inl ne12)).other W68 (Or.inl ne12)).other W75 (Or.inl ne12)).other W82 (Or.inl ne12)).other W89 (Or.inl ne12)).other W96 (Or.inl ne12)).other W103 (Or.inl ne12))
    have f187 : Sta Z h103 "com/example/apq/apq/jpql/Operator$Kind" "EQUALITY" "Lcom/example/apq/apq/jpql/Operator$Kind;" (.ref kEQUALITY) := ((((((((((((((P_S_Operator_Kind_EQUALITY.ext E1).wr W19).wr W26).wr W33).wr W40).wr W47).wr W54).wr W61).wr W68).wr W75).wr W82).wr W89).wr W96).wr W103)
    have f188 : Sta Z h103 "com/example/apq/apq/jpql/Operator$Kind" "ORDERING" "Lcom/example/apq/apq/jpql/Operator$Kind;" (.ref kORDERING) := ((((((((((((((P_S_Operator_Kind_ORDERING.ext E1).wr W19).wr W26).wr W33).wr W40).wr W47).wr W54).wr W61).wr W68).wr W75).wr W82).wr W89).wr W96).wr W103)
    have f189 : n0 ≤ h103.size := (Nat.le_trans (Nat.le_trans (Nat.le_trans (Nat.le_trans (Nat.le_trans (Nat.le_trans (Nat.le_trans (Nat.le_trans (Nat.le_trans (Nat.le_trans (Nat.le_trans (Nat.le_trans (Nat.le_trans (Nat.le_trans Z0 E1.1) (Keep.of_wr W19).1) (Keep.of_wr W26).1) (Keep.of_wr W33).1) (Keep.of_wr W40).1) (Keep.of_wr W47).1) (Keep.of_wr W54).1) (Keep.of_wr W61).1) (Keep.of_wr W68).1) (Keep.of_wr W75).1) (Keep.of_wr W82).1) (Keep.of_wr W89).1) (Keep.of_wr W96).1) (Keep.of_wr W103).1)
    have f191 : Exa Z h103 wMINUS "com/example/apq/apq/jpql/Operator" := (((f87.wr W89).wr W96).wr W103)
    obtain ⟨cq192, kq192, q192a, q192b, q192c⟩ := isOf hZ e103 f191
    obtain ⟨_, _, ⟨T190, L190, k190, n190⟩, -, X190, ⟨Lc190, hQ190, l190, y190, z190⟩, st190⟩ := X103.virtualBack hx (y := (⟨"com/example/apq/apq/jpql/Operator", "compares", "()Z"⟩ : MethodName)) (z := (⟨"com/example/apq/apq/jpql/Operator", "compares", "()Z"⟩ : MethodName)) hown (mvT hZ (hw _ (List.mem_of_getElem? (i := 31) rfl))) (mvT hZ (hw _ (List.mem_of_getElem? (i := 32) rfl))) (notFace_of_selects (args := #[]) (mvT hZ (hw _ (List.mem_of_getElem? (i := 34) rfl)))) (mvT hZ (hw _ (List.mem_of_getElem? (i := 34) rfl))) (mvT hZ (hw _ (List.mem_of_getElem? (i := 33) rfl))) (by decide) (backOf (W := 0) (rmX l Z a0 hw [] wMINUS kADDITIVE kEQUALITY kORDERING h103 n0 f189 f186 f187 f188 ne_ADDITIVE_EQUALITY ne_ADDITIVE_ORDERING) hZ (hw _ (List.mem_of_getElem? (i := 35) rfl)) (hw _ (List.mem_of_getElem? (i := 3) rfl)) (by decide) (by decide)) q192a q192c (g := (mkF m 119 #[.val (.int p0), .val (.ref b1), .val (.int (10 : Int32)), .val (.int (0 : Int32))] [(.ref wMINUS)])) rfl (by rw [hml]; rfl) (Steps.refl _) (argsL := []) (rest := []) (lenOf pd___Z rfl) rfl (by show 2 * 0 + _ ≤ _; exact Nat.le_of_eq rfl) (hb hby at_119) (fun _ _ => ⟨rfl, e103, (by decide : 1 + 0 ≤ _), (by decide : 13 + 0 ≤ _)⟩)
    dsimp only [Pt.U, Pt.locs, Pt.cells, Pt.slots] at X190 l190 y190 z190 st190 hQ190
    subst l190 y190 z190
    obtain ⟨rfl, N190q, e190⟩ := hQ190
    have N190 := Fr.app N104 N190q
    obtain ⟨fs, hr, hrun, hended, hW, hsame⟩ := X190.leave (v := some (.int (1 : Int32))) (fun h => by rw [Bd.returns] at h; cases h)
    refine ⟨_, _, pre106 _ ?_, hrun, hended, _, _, rfl, ?_, ⟨_, rfl⟩, hW, hsame.mono (by decide) (by decide)⟩
    · show Steps p.tables e below (T103.setTop (mkF m 99 #[.val (.int p0), .val (.ref b1), .val (.int (10 : Int32)), .unset] [])) _
      refine XS.iloadN X103.here hx rfl (hb hby at_99) rfl ?_
      show Steps p.tables e below (T103.setTop (mkF m 100 #[.val (.int p0), .val (.ref b1), .val (.int (10 : Int32)), .unset] [(.int (10 : Int32))])) _
      refine XS.iconst X103.here hx rfl (hb hby at_100) ?_
      show Steps p.tables e below (T103.setTop (mkF m 101 #[.val (.int p0), .val (.ref b1), .val (.int (10 : Int32)), .unset] [(.int (3 : Int32)), (.int (10 : Int32))])) _
      refine XS.icmpNo X103.here hx rfl (hb hby at_101) rfl (flt (by decide : ¬ ((10 : Int32) < (3 : Int32)))).1 ?_
      show Steps p.tables e below (T103.setTop (mkF m 104 #[.val (.int p0), .val (.ref b1), .val (.int (10 : Int32)), .unset] [])) _
      refine XS.iloadN X103.here hx rfl (hb hby at_104) rfl ?_
      show Steps p.tables e below (T103.setTop (mkF m 105 #[.val (.int p0), .val (.ref b1), .val (.int (10 : Int32)), .unset] [(.int (10 : Int32))])) _
      refine XS.bipush X103.here hx rfl (hb hby at_105) ?_
      show Steps p.tables e below (T103.setTop (mkF m 107 #[.val (.int p0), .val (.ref b1), .val (.int (10 : Int32)), .unset] [(.int (8 : Int32)), (.int (10 : Int32))])) _
      refine XS.icmpYes X103.here hx rfl (pc0 := 107) (pc' := 114) rfl (hb hby at_107) rfl (tlt (by decide : (8 : Int32) < (10 : Int32))).2.2.1 (by decide) (by decide) ?_
      show Steps p.tables e below (T103.setTop (mkF m 114 #[.val (.int p0), .val (.ref b1), .val (.int (10 : Int32)), .unset] [])) _
      refine XS.iconst X103.here hx rfl (hb hby at_114) ?_
      show Steps p.tables e below (T103.setTop (mkF m 115 #[.val (.int p0), .val (.ref b1), .val (.int (10 : Int32)), .unset] [(.int (0 : Int32))])) _
      refine XS.istoreN X103.here hx rfl (hb hby at_115) rfl (l' := #[.val (.int p0), .val (.ref b1), .val (.int (10 : Int32)), .val (.int (0 : Int32))]) rfl ?_
      show Steps p.tables e below (T103.setTop (mkF m 116 #[.val (.int p0), .val (.ref b1), .val (.int (10 : Int32)), .val (.int (0 : Int32))] [])) _
      refine XS.aloadN X103.here hx rfl (hb hby at_116) rfl rfl ?_
      show Steps p.tables e below (T103.setTop (mkF m 117 #[.val (.int p0), .val (.ref b1), .val (.int (10 : Int32)), .val (.int (0 : Int32))] [(.ref b1)])) _
      refine XS.iloadN X103.here hx rfl (hb hby at_117) rfl ?_
      show Steps p.tables e below (T103.setTop (mkF m 118 #[.val (.int p0), .val (.ref b1), .val (.int (10 : Int32)), .val (.int (0 : Int32))] [(.int (10 : Int32)), (.ref b1)])) _
      refine X103.aaload hx (j := (10 : Int32)) (v := (.ref wMINUS)) (by rw [e103]; exact Ar185.1) (State.isArrayOf_alike hZ.alike Ar185.2.1) rfl Ar185.2.2 hin185 hat185 (g := (mkF m 118 #[.val (.int p0), .val (.ref b1), .val (.int (10 : Int32)), .val (.int (0 : Int32))] [(.int (10 : Int32)), (.ref b1)])) rfl rfl (hb hby at_118) _ ?_
      show Steps p.tables e below (T103.setTop (mkF m 119 #[.val (.int p0), .val (.ref b1), .val (.int (10 : Int32)), .val (.int (0 : Int32))] [(.ref wMINUS)])) _
      refine st190.trans ?_
      show Steps p.tables e below (T190.setTop (mkF m 122 #[.val (.int p0), .val (.ref b1), .val (.int (10 : Int32)), .val (.int (0 : Int32))] [(.int (0 : Int32))])) _
      refine XS.iloadN X190.here hx rfl (hb hby at_122) rfl ?_
      show Steps p.tables e below (T190.setTop (mkF m 123 #[.val (.int p0), .val (.ref b1), .val (.int (10 : Int32)), .val (.int (0 : Int32))] [(.int (0 : Int32)), (.int (0 : Int32))])) _
      refine XS.icmpNo X190.here hx rfl (hb hby at_123) rfl (teq (by decide : (0 : Int32) = (0 : Int32))).2 ?_
      show Steps p.tables e below (T190.setTop (mkF m 126 #[.val (.int p0), .val (.ref b1), .val (.int (10 : Int32)), .val (.int (0 : Int32))] [])) _
      refine XS.iconst X190.here hx rfl (hb hby at_126) ?_
      show Steps p.tables e below (T190.setTop (mkF m 127 #[.val (.int p0), .val (.ref b1), .val (.int (10 : Int32)), .val (.int (0 : Int32))] [(.int (1 : Int32))])) _
      refine XS.goto X190.here hx rfl (pc0 := 127) (pc' := 131) rfl (hb hby at_127) (by decide) (by decide) ?_
      show Steps p.tables e below (T190.setTop (mkF m 131 #[.val (.int p0), .val (.ref b1), .val (.int (10 : Int32)), .val (.int (0 : Int32))] [(.int (1 : Int32))])) _
      exact retN X190 hx (t := .boolean) Bd.returns (by simp) (hb hby at_131) hr
    · show own_Q0 n0 _ T190.heap _
      rw [e190]
      exact ⟨rfl, N190⟩
  · rw [hi] at pre106
    obtain ⟨cl193, Ar193, q193, S193, N193_, H193, G193⟩ := V103
    have hin193 : ¬ ((11 : Int32) < 0 ∨ cl193.slots.size ≤ ((11 : Int32)).toNatClampNeg) := inb_of S193 ⟨by decide, by decide⟩
    have hat193 : cl193.slots[((11 : Int32)).toNatClampNeg]? = some (.ref wTIMES) := H193.at hin193 rfl
    have f194 : Fld Z h103 wTIMES "com/example/apq/apq/jpql/Operator" "kind" "Lcom/example/apq/apq/jpql/Operator$Kind;" (.ref kMULTIPLICATIVE) := ((((((((((((((P_F_wTIMES_Operator_kind.ext E1).other W19 (Or.inl ne13)).other W26 (Or.inl ne13)).other W33 (Or.inl ne13)).other W40 (Or.inl ne13)).other W47 (Or.inl ne13)).other W54 (Or.inl ne13)).other W61 (Or.inl ne13)).other W68 (Or.inl ne13)).other W75 (Or.inl ne13)).other W82 (Or.inl ne13)).other W89 (Or.inl ne13)).other W96 (Or.inl ne13)).other W103 (Or.inl ne13))
    have f195 : Sta Z h103 "com/example/apq/apq/jpql/Operator$Kind" "EQUALITY" "Lcom/example/apq/apq/jpql/Operator$Kind;" (.ref kEQUALITY) := ((((((((((((((P_S_Operator_Kind_EQUALITY.ext E1).wr W19).wr W26).wr W33).wr W40).wr W47).wr W54).wr W61).wr W68).wr W75).wr W82).wr W89).wr W96).wr W103)
    have f196 : Sta Z h103 "com/example/apq/apq/jpql/Operator$Kind" "ORDERING" "Lcom/example/apq/apq/jpql/Operator$Kind;" (.ref kORDERING) := ((((((((((((((P_S_Operator_Kind_ORDERING.ext E1).wr W19).wr W26).wr W33).wr W40).wr W47).wr W54).wr W61).wr W68).wr W75).wr W82).wr W89).wr W96).wr W103)
    have f197 : n0 ≤ h103.size := (Nat.le_trans (Nat.le_trans (Nat.le_trans (Nat.le_trans (Nat.le_trans (Nat.le_trans (Nat.le_trans (Nat.le_trans (Nat.le_trans (Nat.le_trans (Nat.le_trans (Nat.le_trans (Nat.le_trans (Nat.le_trans Z0 E1.1) (Keep.of_wr W19).1) (Keep.of_wr W26).1) (Keep.of_wr W33).1) (Keep.of_wr W40).1) (Keep.of_wr W47).1) (Keep.of_wr W54).1) (Keep.of_wr W61).1) (Keep.of_wr W68).1) (Keep.of_wr W75).1) (Keep.of_wr W82).1) (Keep.of_wr W89).1) (Keep.of_wr W96).1) (Keep.of_wr W103).1)
    have f199 : Exa Z h103 wTIMES "com/example/apq/apq/jpql/Operator" := ((f94.wr W96).wr W103)
    obtain ⟨cq200, kq200, q200a, q200b, q200c⟩ := isOf hZ e103 f199
    obtain ⟨_, _, ⟨T198, L198, k198, n198⟩, -, X198, ⟨Lc198, hQ198, l198, y198, z198⟩, st198⟩ := X103.virtualBack hx (y := (⟨"com/example/apq/apq/jpql/Operator", "compares", "()Z"⟩ : MethodName)) (z := (⟨"com/example/apq/apq/jpql/Operator", "compares", "()Z"⟩ : MethodName)) hown (mvT hZ (hw _ (List.mem_of_getElem? (i := 31) rfl))) (mvT hZ (hw _ (List.mem_of_getElem? (i := 32) rfl))) (notFace_of_selects (args := #[]) (mvT hZ (hw _ (List.mem_of_getElem? (i := 34) rfl)))) (mvT hZ (hw _ (List.mem_of_getElem? (i := 34) rfl))) (mvT hZ (hw _ (List.mem_of_getElem? (i := 33) rfl))) (by decide) (backOf (W := 0) (rmX l Z a0 hw [] wTIMES kMULTIPLICATIVE kEQUALITY kORDERING h103 n0 f197 f194 f195 f196 ne_MULTIPLICATIVE_EQUALITY ne_MULTIPLICATIVE_ORDERING) hZ (hw _ (List.mem_of_getElem? (i := 35) rfl)) (hw _ (List.mem_of_getElem? (i := 3) rfl)) (by decide) (by decide)) q200a q200c (g := (mkF m 119 #[.val (.int p0), .val (.ref b1), .val (.int (11 : Int32)), .val (.int (0 : Int32))] [(.ref wTIMES)])) rfl (by rw [hml]; rfl) (Steps.refl _) (argsL := []) (rest := []) (lenOf pd___Z rfl) rfl (by show 2 * 0 + _ ≤ _; exact Nat.le_of_eq rfl) (hb hby at_119) (fun _ _ => ⟨rfl, e103, (by decide : 1 + 0 ≤ _), (by decide : 13 + 0 ≤ _)⟩)
    dsimp only [Pt.U, Pt.locs, Pt.cells, Pt.slots] at X198 l198 y198 z198 st198 hQ198
    subst l198 y198 z198
    obtain ⟨rfl, N198q, e198⟩ := hQ198
    have N198 := Fr.app N104 N198q
    obtain ⟨fs, hr, hrun, hended, hW, hsame⟩ := X198.leave (v := some (.int (1 : Int32))) (fun h => by rw [Bd.returns] at h; cases h)
    refine ⟨_, _, pre106 _ ?_, hrun, hended, _, _, rfl, ?_, ⟨_, rfl⟩, hW, hsame.mono (by decide) (by decide)⟩
    · show Steps p.tables e below (T103.setTop (mkF m 99 #[.val (.int p0), .val (.ref b1), .val (.int (11 : Int32)), .unset] [])) _
      refine XS.iloadN X103.here hx rfl (hb hby at_99) rfl ?_
      show Steps p.tables e below (T103.setTop (mkF m 100 #[.val (.int p0), .val (.ref b1), .val (.int (11 : Int32)), .unset] [(.int (11 : Int32))])) _
      refine XS.iconst X103.here hx rfl (hb hby at_100) ?_
      show Steps p.tables e below (T103.setTop (mkF m 101 #[.val (.int p0), .val (.ref b1), .val (.int (11 : Int32)), .unset] [(.int (3 : Int32)), (.int (11 : Int32))])) _
      refine XS.icmpNo X103.here hx rfl (hb hby at_101) rfl (flt (by decide : ¬ ((11 : Int32) < (3 : Int32)))).1 ?_
      show Steps p.tables e below (T103.setTop (mkF m 104 #[.val (.int p0), .val (.ref b1), .val (.int (11 : Int32)), .unset] [])) _
      refine XS.iloadN X103.here hx rfl (hb hby at_104) rfl ?_
      show Steps p.tables e below (T103.setTop (mkF m 105 #[.val (.int p0), .val (.ref b1), .val (.int (11 : Int32)), .unset] [(.int (11 : Int32))])) _
      refine XS.bipush X103.here hx rfl (hb hby at_105) ?_
      show Steps p.tables e below (T103.setTop (mkF m 107 #[.val (.int p0), .val (.ref b1), .val (.int (11 : Int32)), .unset] [(.int (8 : Int32)), (.int (11 : Int32))])) _
      refine XS.icmpYes X103.here hx rfl (pc0 := 107) (pc' := 114) rfl (hb hby at_107) rfl (tlt (by decide : (8 : Int32) < (11 : Int32))).2.2.1 (by decide) (by decide) ?_
      show Steps p.tables e below (T103.setTop (mkF m 114 #[.val (.int p0), .val (.ref b1), .val (.int (11 : Int32)), .unset] [])) _
      refine XS.iconst X103.here hx rfl (hb hby at_114) ?_
      show Steps p.tables e below (T103.setTop (mkF m 115 #[.val (.int p0), .val (.ref b1), .val (.int (11 : Int32)), .unset] [(.int (0 : Int32))])) _
      refine XS.istoreN X103.here hx rfl (hb hby at_115) rfl (l' := #[.val (.int p0), .val (.ref b1), .val (.int (11 : Int32)), .val (.int (0 : Int32))]) rfl ?_
      show Steps p.tables e below (T103.setTop (mkF m 116 #[.val (.int p0), .val (.ref b1), .val (.int (11 : Int32)), .val (.int (0 : Int32))] [])) _
      refine XS.aloadN X103.here hx rfl (hb hby at_116) rfl rfl ?_
      show Steps p.tables e below (T103.setTop (mkF m 117 #[.val (.int p0), .val (.ref b1), .val (.int (11 : Int32)), .val (.int (0 : Int32))] [(.ref b1)])) _
      refine XS.iloadN X103.here hx rfl (hb hby at_117) rfl ?_
      show Steps p.tables e below (T103.setTop (mkF m 118 #[.val (.int p0), .val (.ref b1), .val (.int (11 : Int32)), .val (.int (0 : Int32))] [(.int (11 : Int32)), (.ref b1)])) _
      refine X103.aaload hx (j := (11 : Int32)) (v := (.ref wTIMES)) (by rw [e103]; exact Ar193.1) (State.isArrayOf_alike hZ.alike Ar193.2.1) rfl Ar193.2.2 hin193 hat193 (g := (mkF m 118 #[.val (.int p0), .val (.ref b1), .val (.int (11 : Int32)), .val (.int (0 : Int32))] [(.int (11 : Int32)), (.ref b1)])) rfl rfl (hb hby at_118) _ ?_
      show Steps p.tables e below (T103.setTop (mkF m 119 #[.val (.int p0), .val (.ref b1), .val (.int (11 : Int32)), .val (.int (0 : Int32))] [(.ref wTIMES)])) _
      refine st198.trans ?_
      show Steps p.tables e below (T198.setTop (mkF m 122 #[.val (.int p0), .val (.ref b1), .val (.int (11 : Int32)), .val (.int (0 : Int32))] [(.int (0 : Int32))])) _
      refine XS.iloadN X198.here hx rfl (hb hby at_122) rfl ?_
      show Steps p.tables e below (T198.setTop (mkF m 123 #[.val (.int p0), .val (.ref b1), .val (.int (11 : Int32)), .val (.int (0 : Int32))] [(.int (0 : Int32)), (.int (0 : Int32))])) _
      refine XS.icmpNo X198.here hx rfl (hb hby at_123) rfl (teq (by decide : (0 : Int32) = (0 : Int32))).2 ?_
      show Steps p.tables e below (T198.setTop (mkF m 126 #[.val (.int p0), .val (.ref b1), .val (.int (11 : Int32)), .val (.int (0 : Int32))] [])) _
      refine XS.iconst X198.here hx rfl (hb hby at_126) ?_
      show Steps p.tables e below (T198.setTop (mkF m 127 #[.val (.int p0), .val (.ref b1), .val (.int (11 : Int32)), .val (.int (0 : Int32))] [(.int (1 : Int32))])) _
      refine XS.goto X198.here hx rfl (pc0 := 127) (pc' := 131) rfl (hb hby at_127) (by decide) (by decide) ?_
      show Steps p.tables e below (T198.setTop (mkF m 131 #[.val (.int p0), .val (.ref b1), .val (.int (11 : Int32)), .val (.int (0 : Int32))] [(.int (1 : Int32))])) _
      exact retN X198 hx (t := .boolean) Bd.returns (by simp) (hb hby at_131) hr
    · show own_Q0 n0 _ T198.heap _
      rw [e198]
      exact ⟨rfl, N198⟩
  · rw [hi] at pre106
    obtain ⟨cl201, Ar201, q201, S201, N201_, H201, G201⟩ := V103
    have hin201 : ¬ ((12 : Int32) < 0 ∨ cl201.slots.size ≤ ((12 : Int32)).toNatClampNeg) := inb_of S201 ⟨by decide, by decide⟩
    have hat201 : cl201.slots[((12 : Int32)).toNatClampNeg]? = some (.ref wDIVIDE) := H201.at hin201 rfl
    have f202 : Fld Z h103 wDIVIDE "com/example/apq/apq/jpql/Operator" "kind" "Lcom/example/apq/apq/jpql/Operator$Kind;" (.ref kMULTIPLICATIVE) := ((((((((((((((P_F_wDIVIDE_Operator_kind.ext E1).other W19 (Or.inl ne14)).other W26 (Or.inl ne14)).other W33 (Or.inl ne14)).other W40 (Or.inl ne14)).other W47 (Or.inl ne14)).other W54 (Or.inl ne14)).other W61 (Or.inl ne14)).other W68 (Or.inl ne14)).other W75 (Or.inl ne14)).other W82 (Or.inl ne14)).other W89 (Or.inl ne14)).other W96 (Or.inl ne14)).other W103 (Or.inl ne14))
    have f203 : Sta Z h103 "com/example/apq/apq/jpql/Operator$Kind" "EQUALITY" "Lcom/example/apq/apq/jpql/Operator$Kind;" (.ref kEQUALITY) := ((((((((((((((P_S_Operator_Kind_EQUALITY.ext E1).wr W19).wr W26).wr W33).wr W40).wr W47).wr W54).wr W61).wr W68).wr W75).wr W82).wr W89).wr W96).wr W103)
    have f204 : Sta Z h103 "com/example/apq/apq/jpql/Operator$Kind" "ORDERING" "Lcom/example/apq/apq/jpql/Operator$Kind;" (.ref kORDERING) := ((((((((((((((P_S_Operator_Kind_ORDERING.ext E1).wr W19).wr W26).wr W33).wr W40).wr W47).wr W54).wr W61).wr W68).wr W75).wr W82).wr W89).wr W96).wr W103)
    have f205 : n0 ≤ h103.size := (Nat.le_trans (Nat.le_trans (Nat.le_trans (Nat.le_trans (Nat.le_trans (Nat.le_trans (Nat.le_trans (Nat.le_trans (Nat.le_trans (Nat.le_trans (Nat.le_trans (Nat.le_trans (Nat.le_trans (Nat.le_trans Z0 E1.1) (Keep.of_wr W19).1) (Keep.of_wr W26).1) (Keep.of_wr W33).1) (Keep.of_wr W40).1) (Keep.of_wr W47).1) (Keep.of_wr W54).1) (Keep.of_wr W61).1) (Keep.of_wr W68).1) (Keep.of_wr W75).1) (Keep.of_wr W82).1) (Keep.of_wr W89).1) (Keep.of_wr W96).1) (Keep.of_wr W103).1)
    have f207 : Exa Z h103 wDIVIDE "com/example/apq/apq/jpql/Operator" := (f101.wr W103)
    obtain ⟨cq208, kq208, q208a, q208b, q208c⟩ := isOf hZ e103 f207
    obtain ⟨_, _, ⟨T206, L206, k206, n206⟩, -, X206, ⟨Lc206, hQ206, l206, y206, z206⟩, st206⟩ := X103.virtualBack hx (y := (⟨"com/example/apq/apq/jpql/Operator", "compares", "()Z"⟩ : MethodName)) (z := (⟨"com/example/apq/apq/jpql/Operator", "compares", "()Z"⟩ : MethodName)) hown (mvT hZ (hw _ (List.mem_of_getElem? (i := 31) rfl))) (mvT hZ (hw _ (List.mem_of_getElem? (i := 32) rfl))) (notFace_of_selects (args := #[]) (mvT hZ (hw _ (List.mem_of_getElem? (i := 34) rfl)))) (mvT hZ (hw _ (List.mem_of_getElem? (i := 34) rfl))) (mvT hZ (hw _ (List.mem_of_getElem? (i := 33) rfl))) (by decide) (backOf (W := 0) (rmX l Z a0 hw [] wDIVIDE kMULTIPLICATIVE kEQUALITY kORDERING h103 n0 f205 f202 f203 f204 ne_MULTIPLICATIVE_EQUALITY ne_MULTIPLICATIVE_ORDERING) hZ (hw _ (List.mem_of_getElem? (i := 35) rfl)) (hw _ (List.mem_of_getElem? (i := 3) rfl)) (by decide) (by decide)) q208a q208c (g := (mkF m 119 #[.val (.int p0), .val (.ref b1), .val (.int (12 : Int32)), .val (.int (0 : Int32))] [(.ref wDIVIDE)])) rfl (by rw [hml]; rfl) (Steps.refl _) (argsL := []) (rest := []) (lenOf pd___Z rfl) rfl (by show 2 * 0 + _ ≤ _; exact Nat.le_of_eq rfl) (hb hby at_119) (fun _ _ => ⟨rfl, e103, (by decide : 1 + 0 ≤ _), (by decide : 13 + 0 ≤ _)⟩)
    dsimp only [Pt.U, Pt.locs, Pt.cells, Pt.slots] at X206 l206 y206 z206 st206 hQ206
    subst l206 y206 z206
    obtain ⟨rfl, N206q, e206⟩ := hQ206
    have N206 := Fr.app N104 N206q
    obtain ⟨fs, hr, hrun, hended, hW, hsame⟩ := X206.leave (v := some (.int (1 : Int32))) (fun h => by rw [Bd.returns] at h; cases h)
    refine ⟨_, _, pre106 _ ?_, hrun, hended, _, _, rfl, ?_, ⟨_, rfl⟩, hW, hsame.mono (by decide) (by decide)⟩
    · show Steps p.tables e below (T103.setTop (mkF m 99 #[.val (.int p0), .val (.ref b1), .val (.int (12 : Int32)), .unset] [])) _
      refine XS.iloadN X103.here hx rfl (hb hby at_99) rfl ?_
      show Steps p.tables e below (T103.setTop (mkF m 100 #[.val (.int p0), .val (.ref b1), .val (.int (12 : Int32)), .unset] [(.int (12 : Int32))])) _
      refine XS.iconst X103.here hx rfl (hb hby at_100) ?_
      show Steps p.tables e below (T103.setTop (mkF m 101 #[.val (.int p0), .val (.ref b1), .val (.int (12 : Int32)), .unset] [(.int (3 : Int32)), (.int (12 : Int32))])) _
      refine XS.icmpNo X103.here hx rfl (hb hby at_101) rfl (flt (by decide : ¬ ((12 : Int32) < (3 : Int32)))).1 ?_
      show Steps p.tables e below (T103.setTop (mkF m 104 #[.val (.int p0), .val (.ref b1), .val (.int (12 : Int32)), .unset] [])) _
      refine XS.iloadN X103.here hx rfl (hb hby at_104) rfl ?_
      show Steps p.tables e below (T103.setTop (mkF m 105 #[.val (.int p0), .val (.ref b1), .val (.int (12 : Int32)), .unset] [(.int (12 : Int32))])) _
      refine XS.bipush X103.here hx rfl (hb hby at_105) ?_
      show Steps p.tables e below (T103.setTop (mkF m 107 #[.val (.int p0), .val (.ref b1), .val (.int (12 : Int32)), .unset] [(.int (8 : Int32)), (.int (12 : Int32))])) _
      refine XS.icmpYes X103.here hx rfl (pc0 := 107) (pc' := 114) rfl (hb hby at_107) rfl (tlt (by decide : (8 : Int32) < (12 : Int32))).2.2.1 (by decide) (by decide) ?_
      show Steps p.tables e below (T103.setTop (mkF m 114 #[.val (.int p0), .val (.ref b1), .val (.int (12 : Int32)), .unset] [])) _
      refine XS.iconst X103.here hx rfl (hb hby at_114) ?_
      show Steps p.tables e below (T103.setTop (mkF m 115 #[.val (.int p0), .val (.ref b1), .val (.int (12 : Int32)), .unset] [(.int (0 : Int32))])) _
      refine XS.istoreN X103.here hx rfl (hb hby at_115) rfl (l' := #[.val (.int p0), .val (.ref b1), .val (.int (12 : Int32)), .val (.int (0 : Int32))]) rfl ?_
      show Steps p.tables e below (T103.setTop (mkF m 116 #[.val (.int p0), .val (.ref b1), .val (.int (12 : Int32)), .val (.int (0 : Int32))] [])) _
      refine XS.aloadN X103.here hx rfl (hb hby at_116) rfl rfl ?_
      show Steps p.tables e below (T103.setTop (mkF m 117 #[.val (.int p0), .val (.ref b1), .val (.int (12 : Int32)), .val (.int (0 : Int32))] [(.ref b1)])) _
      refine XS.iloadN X103.here hx rfl (hb hby at_117) rfl ?_
      show Steps p.tables e below (T103.setTop (mkF m 118 #[.val (.int p0), .val (.ref b1), .val (.int (12 : Int32)), .val (.int (0 : Int32))] [(.int (12 : Int32)), (.ref b1)])) _
      refine X103.aaload hx (j := (12 : Int32)) (v := (.ref wDIVIDE)) (by rw [e103]; exact Ar201.1) (State.isArrayOf_alike hZ.alike Ar201.2.1) rfl Ar201.2.2 hin201 hat201 (g := (mkF m 118 #[.val (.int p0), .val (.ref b1), .val (.int (12 : Int32)), .val (.int (0 : Int32))] [(.int (12 : Int32)), (.ref b1)])) rfl rfl (hb hby at_118) _ ?_
      show Steps p.tables e below (T103.setTop (mkF m 119 #[.val (.int p0), .val (.ref b1), .val (.int (12 : Int32)), .val (.int (0 : Int32))] [(.ref wDIVIDE)])) _
      refine st206.trans ?_
      show Steps p.tables e below (T206.setTop (mkF m 122 #[.val (.int p0), .val (.ref b1), .val (.int (12 : Int32)), .val (.int (0 : Int32))] [(.int (0 : Int32))])) _
      refine XS.iloadN X206.here hx rfl (hb hby at_122) rfl ?_
      show Steps p.tables e below (T206.setTop (mkF m 123 #[.val (.int p0), .val (.ref b1), .val (.int (12 : Int32)), .val (.int (0 : Int32))] [(.int (0 : Int32)), (.int (0 : Int32))])) _
      refine XS.icmpNo X206.here hx rfl (hb hby at_123) rfl (teq (by decide : (0 : Int32) = (0 : Int32))).2 ?_
      show Steps p.tables e below (T206.setTop (mkF m 126 #[.val (.int p0), .val (.ref b1), .val (.int (12 : Int32)), .val (.int (0 : Int32))] [])) _
      refine XS.iconst X206.here hx rfl (hb hby at_126) ?_
      show Steps p.tables e below (T206.setTop (mkF m 127 #[.val (.int p0), .val (.ref b1), .val (.int (12 : Int32)), .val (.int (0 : Int32))] [(.int (1 : Int32))])) _
      refine XS.goto X206.here hx rfl (pc0 := 127) (pc' := 131) rfl (hb hby at_127) (by decide) (by decide) ?_
      show Steps p.tables e below (T206.setTop (mkF m 131 #[.val (.int p0), .val (.ref b1), .val (.int (12 : Int32)), .val (.int (0 : Int32))] [(.int (1 : Int32))])) _
      exact retN X206 hx (t := .boolean) Bd.returns (by simp) (hb hby at_131) hr
    · show own_Q0 n0 _ T206.heap _
      rw [e206]
      exact ⟨rfl, N206⟩

set_option maxRecDepth 65536 in
set_option maxHeartbeats 40000000 in
theorem comes_1 {Post : Tables → Env → Array Value → State → Outcome → State → Prop} (hpost : ∀ tb e args s v u, (limb_1_1.after args s (.returned v) u = true ∧ limb_1_2.after args s (.returned v) u = true ∧ True) → FrameEnd s (.returned v) u (Jvm.fieldLocs frame_1_writes args s ++ Jvm.arrayLocs frame_1_arrays args s ++ Jvm.staticLocs frame_1_statics s) 16 128 → Post tb e args s (.returned v) u) :
    ArmFor flags0 classFile x code maxLocals ret World_1 tables_1 room_1 Calls_1 rest_1 Pre_1 Post := by
  intro l hfl _ _ p e ha hc hk s m args below hf hA hF happ hP
  obtain ⟨hcalls, hrest, hpre⟩ := hP
  obtain ⟨-, -, -, hnamed, -, -, -, hat⟩ := (Spec.applies_iff hf).mp happ
  obtain ⟨hg, hn⟩ := and_e (Cond.before_iff.mp (show (Jvm.Cond.and given_1 narrow_1).before args s = true from hpre))
  obtain ⟨g0, g1⟩ := and_e hg
  obtain ⟨k0, kr1⟩ := and_e hn
  obtain ⟨k1, kr2⟩ := and_e kr1
  obtain ⟨k2, kr3⟩ := and_e kr2
  obtain ⟨k3, kr4⟩ := and_e kr3
  obtain ⟨k4, kr5⟩ := and_e kr4
  obtain ⟨k5, kr6⟩ := and_e kr5
  obtain ⟨k6, kr7⟩ := and_e kr6
  obtain ⟨k7, kr8⟩ := and_e kr7
  obtain ⟨k8, kr9⟩ := and_e kr8
  obtain ⟨k9, kr10⟩ := and_e kr9
  obtain ⟨k10, kr11⟩ := and_e kr10
  obtain ⟨k11, kr12⟩ := and_e kr11
  obtain ⟨k12, kr13⟩ := and_e kr12
  obtain ⟨k13, kr14⟩ := and_e kr13
  obtain ⟨k14, kr15⟩ := and_e kr14
  obtain ⟨k15, kr16⟩ := and_e kr15
  obtain ⟨k16, kr17⟩ := and_e kr16
  obtain ⟨k17, kr18⟩ := and_e kr17
  obtain ⟨k18, kr19⟩ := and_e kr18
  obtain ⟨k19, kr20⟩ := and_e kr19
  obtain ⟨k20, kr21⟩ := and_e kr20
  obtain ⟨k21, kr22⟩ := and_e kr21
  obtain ⟨k22, kr23⟩ := and_e kr22
  obtain ⟨k23, kr24⟩ := and_e kr23
  obtain ⟨k24, kr25⟩ := and_e kr24
  obtain ⟨k25, kr26⟩ := and_e kr25
  obtain ⟨k26, kr27⟩ := and_e kr26
  obtain ⟨k27, kr28⟩ := and_e kr27
  obtain ⟨k28, kr29⟩ := and_e kr28
  obtain ⟨k29, kr30⟩ := and_e kr29
  obtain ⟨k30, kr31⟩ := and_e kr30
  obtain ⟨k31, kr32⟩ := and_e kr31
  obtain ⟨k32, kr33⟩ := and_e kr32
  obtain ⟨k33, kr34⟩ := and_e kr33
  obtain ⟨k34, k35⟩ := and_e kr34
  obtain ⟨w0, rfl⟩ : ∃ w0 : Value, args = #[w0] := by
    have hs : args.size = 1 := by simpa [Cond.value, given_1] using g0
    obtain ⟨L⟩ := args
    match L, hs with
    | [w0], _ => exact ⟨w0, rfl⟩
  have hw := fun d (hd : d ∈ tables_1) => atoms_spec (ws := Jvm.Cond.code x code maxLocals ret :: tables_1) hat d (List.mem_cons_of_mem _ hd)
  have hfit : Fit s := fun {y c} hc i hi => by
    obtain ⟨ha, rfl⟩ := Array.getElem?_eq_some_iff.mp hc
    have q := List.all_eq_true.mp ((Array.all_eq_true_iff_forall_mem.mp hF) _ (Array.getElem_mem ha)) i (List.mem_range.mpr hi)
    simpa [Array.getElem?_eq_getElem hi] using q
  obtain ⟨i0, ei0⟩ := is_v g1
  obtain rfl : w0 = (.int i0) := Option.some.inj ei0
  obtain ⟨kLOGICAL, e_kLOGICAL⟩ := exa_v k13
  obtain ⟨kEQUALITY, e_kEQUALITY⟩ := exa_v k15
  obtain ⟨kORDERING, e_kORDERING⟩ := exa_v k18
  obtain ⟨kADDITIVE, e_kADDITIVE⟩ := exa_v k24
  obtain ⟨kMULTIPLICATIVE, e_kMULTIPLICATIVE⟩ := exa_v k28
  obtain ⟨wOR, e_wOR⟩ := exa_v k0
  obtain ⟨wAND, e_wAND⟩ := exa_v k1
  obtain ⟨wNOT, e_wNOT⟩ := exa_v k2
  obtain ⟨wEQUAL, e_wEQUAL⟩ := exa_v k3
  obtain ⟨wNOT_EQUAL, e_wNOT_EQUAL⟩ := exa_v k4
  obtain ⟨wLESS, e_wLESS⟩ := exa_v k5
  obtain ⟨wLESS_OR_EQUAL, e_wLESS_OR_EQUAL⟩ := exa_v k6
  obtain ⟨wGREATER, e_wGREATER⟩ := exa_v k7
  obtain ⟨wGREATER_OR_EQUAL, e_wGREATER_OR_EQUAL⟩ := exa_v k8
  obtain ⟨wPLUS, e_wPLUS⟩ := exa_v k9
  obtain ⟨wMINUS, e_wMINUS⟩ := exa_v k10
  obtain ⟨wTIMES, e_wTIMES⟩ := exa_v k11
  obtain ⟨wDIVIDE, e_wDIVIDE⟩ := exa_v k12
  have ne_ORDERING_EQUALITY : kORDERING ≠ kEQUALITY := Fld.ne (own_fld e_kORDERING (own_eqI k19)) (own_fld e_kEQUALITY (own_eqI k17)) (by decide)
  have ne_LOGICAL_EQUALITY : kLOGICAL ≠ kEQUALITY := Fld.ne (own_fld e_kLOGICAL (own_eqI k16)) (own_fld e_kEQUALITY (own_eqI k17)) (by decide)
  have ne_LOGICAL_ORDERING : kLOGICAL ≠ kORDERING := Fld.ne (own_fld e_kLOGICAL (own_eqI k16)) (own_fld e_kORDERING (own_eqI k19)) (by decide)
  have ne_ADDITIVE_EQUALITY : kADDITIVE ≠ kEQUALITY := Fld.ne (own_fld e_kADDITIVE (own_eqI k26)) (own_fld e_kEQUALITY (own_eqI k17)) (by decide)
  have ne_ADDITIVE_ORDERING : kADDITIVE ≠ kORDERING := Fld.ne (own_fld e_kADDITIVE (own_eqI k26)) (own_fld e_kORDERING (own_eqI k19)) (by decide)
  have ne_MULTIPLICATIVE_EQUALITY : kMULTIPLICATIVE ≠ kEQUALITY := Fld.ne (own_fld e_kMULTIPLICATIVE (own_eqI k30)) (own_fld e_kEQUALITY (own_eqI k17)) (by decide)
  have ne_MULTIPLICATIVE_ORDERING : kMULTIPLICATIVE ≠ kORDERING := Fld.ne (own_fld e_kMULTIPLICATIVE (own_eqI k30)) (own_fld e_kORDERING (own_eqI k19)) (by decide)
  obtain ⟨n, o, h1, h2, h3, _, L, rfl, ⟨rfl, N⟩, hq⟩ := rm0 l s _ hw tables_1 i0 kLOGICAL kEQUALITY kORDERING kADDITIVE kMULTIPLICATIVE wOR wAND wNOT wEQUAL wNOT_EQUAL wLESS wLESS_OR_EQUAL wGREATER wGREATER_OR_EQUAL wPLUS wMINUS wTIMES wDIVIDE s.heap s.heap.size (Nat.le_refl _) (Sta.start e_kEQUALITY (Or.inr ⟨(hw _ (List.mem_of_getElem? (i := 38) rfl)), (hw _ (List.mem_of_getElem? (i := 41) rfl))⟩)) (Sta.start e_kORDERING (Or.inr ⟨(hw _ (List.mem_of_getElem? (i := 38) rfl)), (hw _ (List.mem_of_getElem? (i := 43) rfl))⟩)) (Sta.start e_wOR (Or.inr ⟨(hw _ (List.mem_of_getElem? (i := 3) rfl)), (hw _ (List.mem_of_getElem? (i := 4) rfl))⟩)) (Exa.start e_wOR k0) (own_fld e_wOR (own_eqR k14 e_kLOGICAL)) (Sta.start e_wAND (Or.inr ⟨(hw _ (List.mem_of_getElem? (i := 3) rfl)), (hw _ (List.mem_of_getElem? (i := 7) rfl))⟩)) (Exa.start e_wAND k1) (own_fld e_wAND (own_eqR k31 e_kLOGICAL)) (Sta.start e_wNOT (Or.inr ⟨(hw _ (List.mem_of_getElem? (i := 3) rfl)), (hw _ (List.mem_of_getElem? (i := 9) rfl))⟩)) (Exa.start e_wNOT k2) (own_fld e_wNOT (own_eqR k27 e_kLOGICAL)) (Sta.start e_wEQUAL (Or.inr ⟨(hw _ (List.mem_of_getElem? (i := 3) rfl)), (hw _ (List.mem_of_getElem? (i := 11) rfl))⟩)) (Exa.start e_wEQUAL k3) (own_fld e_wEQUAL (own_eqR k20 e_kEQUALITY)) (Sta.start e_wNOT_EQUAL (Or.inr ⟨(hw _ (List.mem_of_getElem? (i := 3) rfl)), (hw _ (List.mem_of_getElem? (i := 13) rfl))⟩)) (Exa.start e_wNOT_EQUAL k4) (own_fld e_wNOT_EQUAL (own_eqR k35 e_kEQUALITY)) (Sta.start e_wLESS (Or.inr ⟨(hw _ (List.mem_of_getElem? (i := 3) rfl)), (hw _ (List.mem_of_getElem? (i := 15) rfl))⟩)) (Exa.start e_wLESS k5) (own_fld e_wLESS (own_eqR k22 e_kORDERING)) (Sta.start e_wLESS_OR_EQUAL (Or.inr ⟨(hw _ (List.mem_of_getElem? (i := 3) rfl)), (hw _ (List.mem_of_getElem? (i := 17) rfl))⟩)) (Exa.start e_wLESS_OR_EQUAL k6) (own_fld e_wLESS_OR_EQUAL (own_eqR k21 e_kORDERING)) (Sta.start e_wGREATER (Or.inr ⟨(hw _ (List.mem_of_getElem? (i := 3) rfl)), (hw _ (List.mem_of_getElem? (i := 19) rfl))⟩)) (Exa.start e_wGREATER k7) (own_fld e_wGREATER (own_eqR k23 e_kORDERING)) (Sta.start e_wGREATER_OR_EQUAL (Or.inr ⟨(hw _ (List.mem_of_getElem? (i := 3) rfl)), (hw _ (List.mem_of_getElem? (i := 21) rfl))⟩)) (Exa.start e_wGREATER_OR_EQUAL k8) (own_fld e_wGREATER_OR_EQUAL (own_eqR k32 e_kORDERING)) (Sta.start e_wPLUS (Or.inr ⟨(hw _ (List.mem_of_getElem? (i := 3) rfl)), (hw _ (List.mem_of_getElem? (i := 23) rfl))⟩)) (Exa.start e_wPLUS k9) (own_fld e_wPLUS (own_eqR k25 e_kADDITIVE)) (Sta.start e_wMINUS (Or.inr ⟨(hw _ (List.mem_of_getElem? (i := 3) rfl)), (hw _ (List.mem_of_getElem? (i := 25) rfl))⟩)) (Exa.start e_wMINUS k10) (own_fld e_wMINUS (own_eqR k33 e_kADDITIVE)) (Sta.start e_wTIMES (Or.inr ⟨(hw _ (List.mem_of_getElem? (i := 3) rfl)), (hw _ (List.mem_of_getElem? (i := 27) rfl))⟩)) (Exa.start e_wTIMES k11) (own_fld e_wTIMES (own_eqR k29 e_kMULTIPLICATIVE)) (Sta.start e_wDIVIDE (Or.inr ⟨(hw _ (List.mem_of_getElem? (i := 3) rfl)), (hw _ (List.mem_of_getElem? (i := 29) rfl))⟩)) (Exa.start e_wDIVIDE k12) (own_fld e_wDIVIDE (own_eqR k34 e_kMULTIPLICATIVE)) ne_ORDERING_EQUALITY ne_LOGICAL_EQUALITY ne_LOGICAL_ORDERING ne_ADDITIVE_EQUALITY ne_ADDITIVE_ORDERING ne_MULTIPLICATIVE_EQUALITY ne_MULTIPLICATIVE_ORDERING p e ha hc hk s m _ below hf ((Spec.applies_iff_loose hf).mp happ).1 ⟨rfl, State.Warmed39.refl s, rfl⟩ trivial
  refine ⟨n, _, h1, h2, h3, hpost _ _ _ _ _ _ ⟨Cond.after_iff.mpr rfl, Cond.after_iff.mpr (eq_i res_at (Term.int_eval (1)) rfl), trivial⟩ ⟨hq.1, hq.2.1, (hq.2.2.sift fun y hy => Or.inr (N y hy)).mono (by decide) (by decide)⟩⟩
theorem main_1_1 : Claimed_1_1 := comes_1 fun _ _ _ _ _ _ h hF => ⟨h.1, hF⟩
theorem main_1_2 : Claimed_1_2 := comes_1 fun _ _ _ _ _ _ h hF => ⟨h.2.1, hF⟩
end Jvm.Pilot.@@N@@
namespace Jvm.Pilot.@@N@@
open Jvm Jvm.ClassFile Sem Op Lib Jvm.Free Jvm.Stand Jvm.Pilot.@@N@@.Jvm.D
/-! MADE BY PROGRAM (witnessworld.py) out of the Statement's table words and the real class files: 14 classes; the members and pool entries that the words name. The judged class is class 1, her method 1. -/
namespace start1
open Jvm.ClassFile
def u (s : String) : CpInfo := .utf8 (stringToUtf16 s)
/-- a pool by its gaps: so many unusable entries, then the entry; so many at the end -/
def gap : Nat → List CpInfo → List CpInfo
  | 0, r => r
  | n + 1, r => .unusable :: gap n r
def poolList (es : List (Nat × CpInfo)) (last : Nat) : List CpInfo := es.foldr (fun e r => gap e.1 (e.2 :: r)) (gap last [])
def pool (es : List (Nat × CpInfo)) (last : Nat) : Array CpInfo := ⟨poolList es last⟩
def fileOf (pool : Array CpInfo) (this : Nat) (attrs : Array Attribute := #[]) (ms : Array MethodInfo := #[]) (fl : Nat := 33) (sup : Nat := 0) (ifs : Array Nat := #[]) (fds : Array FieldInfo := #[]) : ClassFile where
  minorVersion := 0
  majorVersion := 65
  constantPool := pool
  accessFlags := fl
  thisClass := this
  superClass := sup
  interfaces := ifs
  fields := fds
  methods := ms
  attributes := attrs
def plain (name : String) (sup : Option ClassId) : Class where
  name := name
  kind := .ordinary
  loader := none
  accessFlags := 33
  super := sup
  interfaces := #[]
  cf := none
  fields := #[]
  methods := #[]
  instanceTypes := #[]
  staticTypes := #[]
  resolved := #[]
  callSites := []
  init := .initialized
  statics := none
  mirror := none

def pool0 : Array CpInfo := pool [(5, u "<init>"), (0, u "()V"), (1, .class_ 10), (1, u "java/lang/Object")] 113

def k0m0 : Method := { name := "<init>", desc := "()V", sig := { parameters := [], returnType := none }, accessFlags := 1, code := none }
/-- java/lang/Object -/
def k0 : Class := { plain "java/lang/Object" none with
  accessFlags := 33
  interfaces := #[]
  cf := some (fileOf pool0 8 #[] #[{ accessFlags := 1, nameIndex := 5, descriptorIndex := 6, attributes := #[] }] 33 0 #[] #[])
  fields := #[]
  methods := #[k0m0]
  instanceTypes := #[]
  staticTypes := #[]
  resolved := Array.replicate 124 none
  statics := none }

def pool1 : Array CpInfo := pool [(2, .class_ 4), (1, u "java/lang/Object"), (0, u "<init>"), (0, u "()V"), (0, .class_ 8), (0, u "com/example/apq/apq/jpql/Operator"), (0, .fieldref 7 10), (0, .nameAndType 11 12), (0, u "OR"), (0, u "Lcom/example/apq/apq/jpql/Operator;"), (0, .fieldref 7 14), (0, .nameAndType 15 12), (0, u "AND"), (0, .fieldref 7 17), (0, .nameAndType 18 12), (0, u "NOT"), (0, .fieldref 7 20), (0, .nameAndType 21 12), (0, u "EQUAL"), (0, .fieldref 7 23), (0, .nameAndType 24 12), (0, u "NOT_EQUAL"), (0, .fieldref 7 26), (0, .nameAndType 27 12), (0, u "LESS"), (0, .fieldref 7 29), (0, .nameAndType 30 12), (0, u "LESS_OR_EQUAL"), (0, .fieldref 7 32), (0, .nameAndType 33 12), (0, u "GREATER"), (0, .fieldref 7 35), (0, .nameAndType 36 12), (0, u "GREATER_OR_EQUAL"), (0, .fieldref 7 38), (0, .nameAndType 39 12), (0, u "PLUS"), (0, .fieldref 7 41), (0, .nameAndType 42 12), (0, u "MINUS"), (0, .fieldref 7 44), (0, .nameAndType 45 12), (0, u "TIMES"), (0, .fieldref 7 47), (0, .nameAndType 48 12), (0, u "DIVIDE"), (0, .integer 2147483647), (0, .methodref 7 51), (0, .nameAndType 52 53), (0, u "compares"), (0, u "()Z"), (0, .class_ 55), (0, u "com/example/apq/apq/jpql/OperatorComparesPinLaw"), (2, u "law"), (0, u "(I)Z")] 5

def k1m0 : Method := { name := "<init>", desc := "()V", sig := { parameters := [], returnType := none }, accessFlags := 1, code := none }
def k1c1 : Code := { maxStack := 4, maxLocals := 4, code := code, exceptionTable := #[], attributes := #[] }
def k1m1 : Method := { name := "law", desc := "(I)Z", sig := { parameters := [.int], returnType := some .boolean }, accessFlags := 9, code := some k1c1 }
/-- com/example/apq/apq/jpql/OperatorComparesPinLaw -/
def k1 : Class := { plain "com/example/apq/apq/jpql/OperatorComparesPinLaw" (some 0) with
  accessFlags := 49
  interfaces := #[]
  cf := some (fileOf pool1 54 #[] #[{ accessFlags := 1, nameIndex := 5, descriptorIndex := 6, attributes := #[] }, { accessFlags := 9, nameIndex := 58, descriptorIndex := 59, attributes := #[] }] 49 2 #[] #[])
  fields := #[]
  methods := #[k1m0, k1m1]
  instanceTypes := #[]
  staticTypes := #[]
  resolved := Array.replicate 65 none
  statics := none }

def pool2 : Array CpInfo := pool [(1, .class_ 2), (0, u "java/lang/constant/Constable"), (0, .class_ 4), (0, u "java/lang/Object")] 6

/-- java/lang/constant/Constable -/
def k2 : Class := { plain "java/lang/constant/Constable" (some 0) with
  accessFlags := 1537
  interfaces := #[]
  cf := some (fileOf pool2 1 #[] #[] 1537 3 #[] #[])
  fields := #[]
  methods := #[]
  instanceTypes := #[]
  staticTypes := #[]
  resolved := Array.replicate 11 none
  statics := none }

def pool3 : Array CpInfo := pool [(1, .class_ 2), (0, u "java/lang/Comparable"), (0, .class_ 4), (0, u "java/lang/Object")] 7

/-- java/lang/Comparable -/
def k3 : Class := { plain "java/lang/Comparable" (some 0) with
  accessFlags := 1537
  interfaces := #[]
  cf := some (fileOf pool3 1 #[] #[] 1537 3 #[] #[])
  fields := #[]
  methods := #[]
  instanceTypes := #[]
  staticTypes := #[]
  resolved := Array.replicate 12 none
  statics := none }

def pool4 : Array CpInfo := pool [(1, .class_ 2), (0, u "java/io/Serializable"), (0, .class_ 4), (0, u "java/lang/Object")] 2

/-- java/io/Serializable -/
def k4 : Class := { plain "java/io/Serializable" (some 0) with
  accessFlags := 1537
  interfaces := #[]
  cf := some (fileOf pool4 1 #[] #[] 1537 3 #[] #[])
  fields := #[]
  methods := #[]
  instanceTypes := #[]
  staticTypes := #[]
  resolved := Array.replicate 7 none
  statics := none }

def pool5 : Array CpInfo := pool [(2, .class_ 4), (1, u "java/lang/Enum"), (0, u "name"), (0, u "Ljava/lang/String;"), (2, u "ordinal"), (0, u "I"), (1, .class_ 14), (1, u "java/lang/Object"), (4, u "hash"), (86, .class_ 108), (1, u "java/lang/Enum$EnumDesc"), (2, .class_ 112), (0, u "java/lang/constant/Constable"), (0, .class_ 114), (0, u "java/lang/Comparable"), (0, .class_ 116), (0, u "java/io/Serializable")] 87

/-- java/lang/Enum -/
def k5 : Class := { plain "java/lang/Enum" (some 0) with
  accessFlags := 1057
  interfaces := #[2, 3, 4]
  cf := some (fileOf pool5 2 #[.nestMembers #[106]] #[] 1057 12 #[111, 113, 115] #[{ accessFlags := 18, nameIndex := 5, descriptorIndex := 6, attributes := #[] }, { accessFlags := 18, nameIndex := 9, descriptorIndex := 10, attributes := #[] }, { accessFlags := 2, nameIndex := 19, descriptorIndex := 10, attributes := #[] }])
  fields := #[{ name := "name", type := (.object "java/lang/String"), accessFlags := 18, slot := 0, constantValue := 0 }, { name := "ordinal", type := .int, accessFlags := 18, slot := 1, constantValue := 0 }, { name := "hash", type := .int, accessFlags := 2, slot := 2, constantValue := 0 }]
  methods := #[]
  instanceTypes := #[(.object "java/lang/String"), .int, .int]
  staticTypes := #[]
  resolved := Array.replicate 204 none
  statics := none }

def pool6 : Array CpInfo := pool [(1, .class_ 2), (0, u "com/example/apq/apq/jpql/Operator"), (2, u "OR"), (0, u "Lcom/example/apq/apq/jpql/Operator;"), (2, u "AND"), (2, u "NOT"), (2, u "EQUAL"), (2, u "NOT_EQUAL"), (2, u "LESS"), (2, u "LESS_OR_EQUAL"), (2, u "GREATER"), (2, u "GREATER_OR_EQUAL"), (2, u "PLUS"), (2, u "MINUS"), (2, u "TIMES"), (2, u "DIVIDE"), (2, u "$VALUES"), (0, u "[Lcom/example/apq/apq/jpql/Operator;"), (6, .class_ 55), (1, u "java/lang/Enum"), (8, u "symbol"), (0, u "Ljava/lang/String;"), (0, .fieldref 1 67), (0, .nameAndType 68 69), (0, u "kind"), (0, u "Lcom/example/apq/apq/jpql/Operator$Kind;"), (20, .fieldref 91 92), (0, .class_ 93), (0, .nameAndType 94 69), (0, u "com/example/apq/apq/jpql/Operator$Kind"), (0, u "EQUALITY"), (0, .fieldref 91 96), (0, .nameAndType 97 69), (0, u "ORDERING"), (59, u "compares"), (0, u "()Z")] 12

def k6c0 : Code := { maxStack := 2, maxLocals := 1, code := prog_86_method_6_code, exceptionTable := #[], attributes := #[] }
def k6m0 : Method := { name := "compares", desc := "()Z", sig := { parameters := [], returnType := some .boolean }, accessFlags := 1, code := some k6c0 }
/-- com/example/apq/apq/jpql/Operator -/
def k6 : Class := { plain "com/example/apq/apq/jpql/Operator" (some 5) with
  accessFlags := 16433
  interfaces := #[]
  cf := some (fileOf pool6 1 #[.nestMembers #[91]] #[{ accessFlags := 1, nameIndex := 157, descriptorIndex := 158, attributes := #[] }] 16433 53 #[] #[{ accessFlags := 16409, nameIndex := 5, descriptorIndex := 6, attributes := #[] }, { accessFlags := 16409, nameIndex := 9, descriptorIndex := 6, attributes := #[] }, { accessFlags := 16409, nameIndex := 12, descriptorIndex := 6, attributes := #[] }, { accessFlags := 16409, nameIndex := 15, descriptorIndex := 6, attributes := #[] }, { accessFlags := 16409, nameIndex := 18, descriptorIndex := 6, attributes := #[] }, { accessFlags := 16409, nameIndex := 21, descriptorIndex := 6, attributes := #[] }, { accessFlags := 16409, nameIndex := 24, descriptorIndex := 6, attributes := #[] }, { accessFlags := 16409, nameIndex := 27, descriptorIndex := 6, attributes := #[] }, { accessFlags := 16409, nameIndex := 30, descriptorIndex := 6, attributes := #[] }, { accessFlags := 16409, nameIndex := 33, descriptorIndex := 6, attributes := #[] }, { accessFlags := 16409, nameIndex := 36, descriptorIndex := 6, attributes := #[] }, { accessFlags := 16409, nameIndex := 39, descriptorIndex := 6, attributes := #[] }, { accessFlags := 16409, nameIndex := 42, descriptorIndex := 6, attributes := #[] }, { accessFlags := 18, nameIndex := 64, descriptorIndex := 65, attributes := #[] }, { accessFlags := 18, nameIndex := 68, descriptorIndex := 69, attributes := #[] }, { accessFlags := 4122, nameIndex := 45, descriptorIndex := 46, attributes := #[] }])
  fields := #[{ name := "OR", type := (.object "com/example/apq/apq/jpql/Operator"), accessFlags := 16409, slot := 0, constantValue := 0 }, { name := "AND", type := (.object "com/example/apq/apq/jpql/Operator"), accessFlags := 16409, slot := 1, constantValue := 0 }, { name := "NOT", type := (.object "com/example/apq/apq/jpql/Operator"), accessFlags := 16409, slot := 2, constantValue := 0 }, { name := "EQUAL", type := (.object "com/example/apq/apq/jpql/Operator"), accessFlags := 16409, slot := 3, constantValue := 0 }, { name := "NOT_EQUAL", type := (.object "com/example/apq/apq/jpql/Operator"), accessFlags := 16409, slot := 4, constantValue := 0 }, { name := "LESS", type := (.object "com/example/apq/apq/jpql/Operator"), accessFlags := 16409, slot := 5, constantValue := 0 }, { name := "LESS_OR_EQUAL", type := (.object "com/example/apq/apq/jpql/Operator"), accessFlags := 16409, slot := 6, constantValue := 0 }, { name := "GREATER", type := (.object "com/example/apq/apq/jpql/Operator"), accessFlags := 16409, slot := 7, constantValue := 0 }, { name := "GREATER_OR_EQUAL", type := (.object "com/example/apq/apq/jpql/Operator"), accessFlags := 16409, slot := 8, constantValue := 0 }, { name := "PLUS", type := (.object "com/example/apq/apq/jpql/Operator"), accessFlags := 16409, slot := 9, constantValue := 0 }, { name := "MINUS", type := (.object "com/example/apq/apq/jpql/Operator"), accessFlags := 16409, slot := 10, constantValue := 0 }, { name := "TIMES", type := (.object "com/example/apq/apq/jpql/Operator"), accessFlags := 16409, slot := 11, constantValue := 0 }, { name := "DIVIDE", type := (.object "com/example/apq/apq/jpql/Operator"), accessFlags := 16409, slot := 12, constantValue := 0 }, { name := "symbol", type := (.object "java/lang/String"), accessFlags := 18, slot := 3, constantValue := 0 }, { name := "kind", type := (.object "com/example/apq/apq/jpql/Operator$Kind"), accessFlags := 18, slot := 4, constantValue := 0 }, { name := "$VALUES", type := (.array (.object "com/example/apq/apq/jpql/Operator")), accessFlags := 4122, slot := 13, constantValue := 0 }]
  methods := #[k6m0]
  instanceTypes := #[(.object "java/lang/String"), .int, .int, (.object "java/lang/String"), (.object "com/example/apq/apq/jpql/Operator$Kind")]
  staticTypes := #[(.object "com/example/apq/apq/jpql/Operator"), (.object "com/example/apq/apq/jpql/Operator"), (.object "com/example/apq/apq/jpql/Operator"), (.object "com/example/apq/apq/jpql/Operator"), (.object "com/example/apq/apq/jpql/Operator"), (.object "com/example/apq/apq/jpql/Operator"), (.object "com/example/apq/apq/jpql/Operator"), (.object "com/example/apq/apq/jpql/Operator"), (.object "com/example/apq/apq/jpql/Operator"), (.object "com/example/apq/apq/jpql/Operator"), (.object "com/example/apq/apq/jpql/Operator"), (.object "com/example/apq/apq/jpql/Operator"), (.object "com/example/apq/apq/jpql/Operator"), (.array (.object "com/example/apq/apq/jpql/Operator"))]
  resolved := Array.replicate 171 none
  statics := some 0 }

def pool7 : Array CpInfo := pool [(1, .class_ 2), (0, u "com/example/apq/apq/jpql/Operator$Kind"), (2, u "LOGICAL"), (0, u "Lcom/example/apq/apq/jpql/Operator$Kind;"), (2, u "EQUALITY"), (2, u "ORDERING"), (2, u "ADDITIVE"), (2, u "MULTIPLICATIVE"), (2, u "$VALUES"), (0, u "[Lcom/example/apq/apq/jpql/Operator$Kind;"), (6, .class_ 31), (1, u "java/lang/Enum"), (28, .class_ 61), (0, u "com/example/apq/apq/jpql/Operator")] 2

/-- com/example/apq/apq/jpql/Operator$Kind -/
def k7 : Class := { plain "com/example/apq/apq/jpql/Operator$Kind" (some 5) with
  accessFlags := 16432
  interfaces := #[]
  cf := some (fileOf pool7 1 #[.nestHost 60] #[] 16432 29 #[] #[{ accessFlags := 16409, nameIndex := 5, descriptorIndex := 6, attributes := #[] }, { accessFlags := 16409, nameIndex := 9, descriptorIndex := 6, attributes := #[] }, { accessFlags := 16409, nameIndex := 12, descriptorIndex := 6, attributes := #[] }, { accessFlags := 16409, nameIndex := 15, descriptorIndex := 6, attributes := #[] }, { accessFlags := 16409, nameIndex := 18, descriptorIndex := 6, attributes := #[] }, { accessFlags := 4122, nameIndex := 21, descriptorIndex := 22, attributes := #[] }])
  fields := #[{ name := "LOGICAL", type := (.object "com/example/apq/apq/jpql/Operator$Kind"), accessFlags := 16409, slot := 0, constantValue := 0 }, { name := "EQUALITY", type := (.object "com/example/apq/apq/jpql/Operator$Kind"), accessFlags := 16409, slot := 1, constantValue := 0 }, { name := "ORDERING", type := (.object "com/example/apq/apq/jpql/Operator$Kind"), accessFlags := 16409, slot := 2, constantValue := 0 }, { name := "ADDITIVE", type := (.object "com/example/apq/apq/jpql/Operator$Kind"), accessFlags := 16409, slot := 3, constantValue := 0 }, { name := "MULTIPLICATIVE", type := (.object "com/example/apq/apq/jpql/Operator$Kind"), accessFlags := 16409, slot := 4, constantValue := 0 }, { name := "$VALUES", type := (.array (.object "com/example/apq/apq/jpql/Operator$Kind")), accessFlags := 4122, slot := 5, constantValue := 0 }]
  methods := #[]
  instanceTypes := #[(.object "java/lang/String"), .int, .int]
  staticTypes := #[(.object "com/example/apq/apq/jpql/Operator$Kind"), (.object "com/example/apq/apq/jpql/Operator$Kind"), (.object "com/example/apq/apq/jpql/Operator$Kind"), (.object "com/example/apq/apq/jpql/Operator$Kind"), (.object "com/example/apq/apq/jpql/Operator$Kind"), (.array (.object "com/example/apq/apq/jpql/Operator$Kind"))]
  resolved := Array.replicate 64 none
  statics := some 1 }

def pool8 : Array CpInfo := pool [(1, u "java/lang/Cloneable"), (0, .class_ 1), (0, u "java/lang/Object"), (0, .class_ 3)] 3

/-- java/lang/Cloneable -/
def k8 : Class := { plain "java/lang/Cloneable" (some 0) with
  accessFlags := 1537
  interfaces := #[]
  cf := some (fileOf pool8 2 #[] #[] 1537 4 #[] #[])
  fields := #[]
  methods := #[]
  instanceTypes := #[]
  staticTypes := #[]
  resolved := Array.replicate 8 none
  statics := none }

/-- the primitive byte -/
def k9 : Class := { plain "byte" none with kind := .primitive 'B', accessFlags := 0x411 }
/-- [B -/
def k10 : Class := { plain "[B" (some 0) with kind := .array 9 .byte, interfaces := #[8, 4], accessFlags := 1041 }

/-- the primitive int -/
def k11 : Class := { plain "int" none with kind := .primitive 'I', accessFlags := 0x411 }
/-- [I -/
def k12 : Class := { plain "[I" (some 0) with kind := .array 11 .int, interfaces := #[8, 4], accessFlags := 1041 }

/-- [Lcom/example/apq/apq/jpql/Operator; -/
def k13 : Class := { plain "[Lcom/example/apq/apq/jpql/Operator;" (some 0) with kind := .array 6 (.object "com/example/apq/apq/jpql/Operator"), interfaces := #[8, 4], accessFlags := 1041 }

def heap : Heap := #[{ cls := 6, slots := #[.ref 7, .ref 8, .ref 9, .ref 10, .ref 11, .ref 12, .ref 13, .ref 14, .ref 15, .ref 16, .ref 17, .ref 18, .ref 19, .null], vm := .statics 6 },
  { cls := 7, slots := #[.ref 2, .ref 3, .ref 4, .ref 5, .ref 6, .null], vm := .statics 7 },
  { cls := 7, slots := #[.null, .int 0, .int 0], vm := .none },
  { cls := 7, slots := #[.null, .int 1, .int 0], vm := .none },
  { cls := 7, slots := #[.null, .int 2, .int 0], vm := .none },
  { cls := 7, slots := #[.null, .int 3, .int 0], vm := .none },
  { cls := 7, slots := #[.null, .int 4, .int 0], vm := .none },
  { cls := 6, slots := #[.null, .int 0, .int 0, .null, .ref 2], vm := .none },
  { cls := 6, slots := #[.null, .int 1, .int 0, .null, .ref 2], vm := .none },
  { cls := 6, slots := #[.null, .int 2, .int 0, .null, .ref 2], vm := .none },
  { cls := 6, slots := #[.null, .int 3, .int 0, .null, .ref 3], vm := .none },
  { cls := 6, slots := #[.null, .int 4, .int 0, .null, .ref 3], vm := .none },
  { cls := 6, slots := #[.null, .int 5, .int 0, .null, .ref 4], vm := .none },
  { cls := 6, slots := #[.null, .int 6, .int 0, .null, .ref 4], vm := .none },
  { cls := 6, slots := #[.null, .int 7, .int 0, .null, .ref 4], vm := .none },
  { cls := 6, slots := #[.null, .int 8, .int 0, .null, .ref 4], vm := .none },
  { cls := 6, slots := #[.null, .int 9, .int 0, .null, .ref 5], vm := .none },
  { cls := 6, slots := #[.null, .int 10, .int 0, .null, .ref 5], vm := .none },
  { cls := 6, slots := #[.null, .int 11, .int 0, .null, .ref 6], vm := .none },
  { cls := 6, slots := #[.null, .int 12, .int 0, .null, .ref 6], vm := .none }]
def classes : Array Class := #[k0, k1, k2, k3, k4, k5, k6, k7, k8, k9, k10, k11, k12, k13]
def interned : List (Array UInt16 × Addr) := []
def slotsUsed : Nat := 100
def theMethod : MethodId := ⟨1, 1⟩
def args0 : Array Value := #[.int 5]
def aboutOver (below : List Frame) : State where
  vm := { classes := classes, interned := interned.toArray }
  heap := heap
  slotsUsed := slotsUsed
  threads := #[{ frames := .invoking theMethod args0 :: below }]
def below0 : List Frame := [.native { method := ⟨0, 0⟩, args := #[] }]
def about1 : State := aboutOver below0
def p0 : Program := .bare "" "" ""
def e0 : Env := launch0.env 0 0 0
theorem w_frames : about1.frames = Frame.invoking theMethod args0 :: below0 := rfl
set_option maxRecDepth 65536 in
theorem w_args : argsFit about1.vm theMethod args0 = true := by decide +kernel
set_option maxRecDepth 65536 in
theorem w_heap : heapFits about1 = true := by decide +kernel
set_option maxRecDepth 65536 in
theorem w_runnable : about1.curStatus? = some .runnable := by decide +kernel
set_option maxRecDepth 65536 in
theorem w_alone : about1.alone = true := by decide +kernel
set_option maxRecDepth 65536 in
theorem w_named : about1.methodNamed? x = some theMethod := by decide +kernel
set_option maxRecDepth 65536 in
theorem w_hears : about1.hears theMethod below0 = true := by decide +kernel
set_option maxRecDepth 65536 in
theorem w_ripe : about1.ripe theMethod args0 below0 = true := by decide +kernel
theorem w_running : about1.status = .running := rfl
set_option maxRecDepth 65536 in
theorem w_room : about1.hasRoom e0.platform room_1 = true :=
  launch0.hasRoom_least _ room_1 (by decide +kernel) (by decide +kernel) (by decide +kernel) (by decide +kernel) (by decide +kernel) (by decide +kernel)
theorem allAtoms_all (ts : List Jvm.Cond) (a : Array Jvm.Value) (st : Jvm.State) : (allAtoms ts).before a st = ts.all (fun c => c.before a st) := by
  induction ts with
  | nil => rfl
  | cons c t ih =>
    show (Jvm.Cond.and c (allAtoms t)).before a st = _
    rw [Jvm.Cond.before_and, ih, List.all_cons]
def words1 : List Jvm.Cond := Jvm.Cond.code x code maxLocals ret :: tables_1
/-- a 'code' word, met by the world's own term for the bytes: nothing is compared byte by byte -/
theorem code_word {y : MethodName} {bytes : ByteArray} {mx : Nat} {rt : Option FieldType} {a : Array Value} {s : State} {m : MethodId} {meth : Method} {c : Code} (h1 : s.methodNamed? y = some m) (h2 : s.vm.method? m = some meth) (h3 : meth.code = some c) (h4 : c.code = bytes)
    (h5 : (c.maxLocals == mx && c.exceptionTable.isEmpty && decide (c.maxStack ≤ mostOperands) && decide (meth.sig.returnType = rt) && !meth.locks && decide (parseMethodDescriptor y.desc = some meth.sig)) = true) : (Jvm.Cond.code y bytes mx rt).before a s = true := by
  simp only [Bool.and_eq_true, beq_iff_eq, Bool.not_eq_true', decide_eq_true_eq] at h5
  obtain ⟨⟨⟨⟨⟨g1, g2⟩, g3⟩, g4⟩, g5⟩, g6⟩ := h5
  simp [Cond.before, Cond.holds, Cond.value, h1, h2, h3, h4, g1, g2, g3, g4, g5, g6]
def isCode : Jvm.Cond → Bool
  | .code _ _ _ _ => true
  | _ => false
theorem all_split {L : List Jvm.Cond} {P : Jvm.Cond → Bool} (h1 : L.all (fun c => isCode c || P c) = true) (h2 : ∀ c ∈ L.filter isCode, P c = true) : L.all P = true := by
  refine List.all_eq_true.mpr fun c hc => ?_
  have h := List.all_eq_true.mp h1 c hc
  rcases Bool.eq_false_or_eq_true (isCode c) with hi | hi
  · exact h2 c (List.mem_filter.mpr ⟨hc, hi⟩)
  · simpa [hi] using h
set_option maxRecDepth 65536 in
theorem w_c0 : (Jvm.Cond.code x code maxLocals ret).before args0 about1 = true := code_word (m := ⟨1, 1⟩) (meth := k1m1) (c := k1c1) (by decide +kernel) rfl rfl rfl (by decide +kernel)
set_option maxRecDepth 65536 in
theorem w_c1 : (Jvm.Cond.code ({ cls := "com/example/apq/apq/jpql/Operator", name := "compares", desc := "()Z" } : Jvm.MethodName) prog_86_method_6_code (1 : Nat) (Option.some Jvm.ClassFile.FieldType.boolean)).before args0 about1 = true := code_word (m := ⟨6, 0⟩) (meth := k6m0) (c := k6c0) (by decide +kernel) rfl rfl rfl (by decide +kernel)
def codes1 : List Jvm.Cond := [Jvm.Cond.code x code maxLocals ret, Jvm.Cond.code ({ cls := "com/example/apq/apq/jpql/Operator", name := "compares", desc := "()Z" } : Jvm.MethodName) prog_86_method_6_code (1 : Nat) (Option.some Jvm.ClassFile.FieldType.boolean)]
set_option maxRecDepth 65536 in
theorem codes_eq : words1.filter isCode = codes1 := rfl
theorem w_codes : ∀ c ∈ words1.filter isCode, c.before args0 about1 = true := by
  rw [codes_eq]
  intro c hc
  simp only [codes1, List.mem_cons, List.not_mem_nil, or_false] at hc
  rcases hc with rfl | rfl
  · exact w_c0
  · exact w_c1
set_option maxRecDepth 65536 in
theorem w_t1 : (words1.take 24).all (fun c => isCode c || c.before args0 about1) = true := by decide +kernel
set_option maxRecDepth 65536 in
theorem w_t2 : (words1.drop 24).all (fun c => isCode c || c.before args0 about1) = true := by decide +kernel
theorem w_tables : (allAtoms (Jvm.Cond.code x code maxLocals ret :: tables_1)).before args0 about1 = true := by
  rw [allAtoms_all]
  show words1.all (fun c => c.before args0 about1) = true
  refine all_split ?_ w_codes
  rw [← List.take_append_drop 24 words1, List.all_append, w_t1, w_t2]
  rfl
set_option maxRecDepth 65536 in
theorem w_case : (Jvm.Cond.and given_1 narrow_1).before args0 about1 = true := by decide +kernel
theorem w_applies : (headSpec (Jvm.Cond.code x code maxLocals ret :: tables_1) room_1).applies x e0.platform about1 = true :=
  (Spec.applies_iff w_frames).mpr ⟨w_running, w_runnable, w_alone, w_named, w_hears, w_ripe, w_room, w_tables⟩
theorem atStart : AtStart classFile x code maxLocals ret World_1 tables_1 room_1 Calls_1 rest_1 Pre_1 launch0 p0 e0 about1 theMethod args0 below0 :=
  ⟨lists_1, trivial, launch0.admits_env _ _ _, launch0.least_env, fairChoices_fair.cas, fairChoices_fair.clock, w_frames, w_args, w_heap, w_applies, trivial, trivial, w_case⟩
end start1
theorem witness_1 : WitnessClaimed_1 := ⟨start1.p0, start1.e0, start1.about1, start1.theMethod, start1.args0, start1.below0, start1.atStart⟩
end Jvm.Pilot.@@N@@
