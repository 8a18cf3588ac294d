import JvmDerived
import JvmDerived.Pilot.@@N@@Statement
import JvmDerived.Pilot.@@N@@Code
set_option linter.unusedVariables false
set_option linter.unusedSimpArgs false
namespace Jvm.Pilot.@@N@@
open Jvm Jvm.ClassFile Sem Op Lib Jvm.Free Jvm.Stand Jvm.LawKit Jvm.RoadKit Bundle Jvm.Pilot.@@N@@.Jvm.D
def own_QP (r : Option Value) (h0 : Heap) (n0 : Nat) (v : Option Value) (h : Heap) (L : List Loc) : Prop := v = r ∧ Fr n0 L ∧ h = h0
def own_Q0 (n0 : Nat) (v : Option Value) (h : Heap) (L : List Loc) : Prop := v = some (.int 1) ∧ Fr n0 L
section OwnWords
variable {args : Array Value} {s : State}
theorem own_eqI {t : Term} {k : Int32} (h : (Jvm.Cond.eq t (.int k)).value args s none s [] = some true) : t.eval args s none [] s = some (.int k) := by
  obtain ⟨x, y, h1, h2, h3, h4⟩ := cmp_v (Or.inl h)
  obtain rfl : y = .int k := (Option.some.inj h2).symm
  obtain ⟨z, rfl⟩ := h4
  have q := gotT (Cond.eq_ints h1 h2) h
  rw [h1, q]
theorem own_eqR {t u : Term} {b : Addr} (h : (Jvm.Cond.eq t u).value args s none s [] = some true) (hu : u.eval args s none [] s = some (.ref b)) : t.eval args s none [] s = some (.ref b) := by
  obtain ⟨x, y, h1, h2, h3, h4⟩ := cmp_v (Or.inl h)
  obtain rfl : y = .ref b := Option.some.inj (h2.symm.trans hu)
  have q := gotT (eq_R h1 h2 h4.2 h4.1) h
  rw [h1, q]
theorem own_fld {t : Term} {C n d : String} {a : Addr} {v : Value} (ht : t.eval args s none [] s = some (.ref a)) (h : (Term.field t C n d).eval args s none [] s = some v) : Fld s s.heap a C n d v := Fld.start ((fld_at ht).symm.trans h)
end OwnWords
theorem own_staKeep {Z : State} {h h' : Heap} {C n d : String} {v : Value} {ws : List Addr} (F : Sta Z h C n d v) (K : Keep h h' ws) (q : ∀ x ∈ ws, ∀ cell : Cell, h[x]? = some cell → cell.vm.isStatics = false) : Sta Z h' C n d v := by
  obtain ⟨cf, i, k, f, st, cell, h1, h2, h3, h4, h5, h6, h7⟩ := F
  refine ⟨cf, i, k, f, st, cell, h1, h2, h3, h4, K.2.1 st cell h5 (fun z => ?_), h6, h7⟩
  rw [q st z cell h5] at h6; cases h6
def own_wh (f x : Int32) : Int32 := if f = 0 then (if x = (2147483647 : Int32) then 1 else 0) else 0
theorem own_nn (a : Int32) : ¬ ((a &&& (2147483647 : Int32)) < (0 : Int32)) := by
  have h := c_mask a (2147483647 : Int32) 31 (by decide) (by decide)
  rw [Int32.lt_iff_toInt_lt, h]
  have : (0 : Int32).toInt = 0 := rfl
  omega
theorem d2_0 : decode jdk_30_method_1_code 0 = .ok (.aload_n 0, 1) := by decide +kernel
theorem d2_1 : decode jdk_30_method_1_code 1 = .ok (.invokespecial 1, 3) := by decide +kernel
theorem d2_4 : decode jdk_30_method_1_code 4 = .ok (.return_, 1) := by decide +kernel
theorem pn_2 : plainName "java/lang/Record" = true := by first | (simp [plainName, overriddenIn]; done) | decide +kernel
theorem d1_0 : decode prog_118_method_1_code 0 = .ok (.aload_n 0, 1) := by decide +kernel
theorem d1_1 : decode prog_118_method_1_code 1 = .ok (.invokespecial 1, 3) := by decide +kernel
theorem pd___V : parseMethodDescriptor "()V" = some ⟨[], none⟩ := by decide +kernel
theorem d1_4 : decode prog_118_method_1_code 4 = .ok (.iload_n 1, 1) := by decide +kernel
theorem d1_5 : decode prog_118_method_1_code 5 = .ok (.ifCond .ge 27, 3) := by decide +kernel
theorem d1_32 : decode prog_118_method_1_code 32 = .ok (.iload_n 2, 1) := by decide +kernel
theorem d1_33 : decode prog_118_method_1_code 33 = .ok (.ifCond .ge 27, 3) := by decide +kernel
theorem d1_60 : decode prog_118_method_1_code 60 = .ok (.aload_n 0, 1) := by decide +kernel
theorem d1_61 : decode prog_118_method_1_code 61 = .ok (.iload_n 1, 1) := by decide +kernel
theorem d1_62 : decode prog_118_method_1_code 62 = .ok (.putfield 30, 3) := by decide +kernel
theorem d1_65 : decode prog_118_method_1_code 65 = .ok (.aload_n 0, 1) := by decide +kernel
theorem d1_66 : decode prog_118_method_1_code 66 = .ok (.iload_n 2, 1) := by decide +kernel
theorem d1_67 : decode prog_118_method_1_code 67 = .ok (.putfield 36, 3) := by decide +kernel
theorem d1_70 : decode prog_118_method_1_code 70 = .ok (.return_, 1) := by decide +kernel
theorem pn_1 : plainName "com/example/apq/apq/query/Page" = true := by first | (simp [plainName, overriddenIn]; done) | decide +kernel
theorem d4_0 : decode prog_118_method_2_code 0 = .ok (.aload_n 0, 1) := by decide +kernel
theorem d4_1 : decode prog_118_method_2_code 1 = .ok (.getfield 30, 3) := by decide +kernel
theorem d4_4 : decode prog_118_method_2_code 4 = .ok (.ifCond .ne 16, 3) := by decide +kernel
theorem d4_7 : decode prog_118_method_2_code 7 = .ok (.aload_n 0, 1) := by decide +kernel
theorem d4_8 : decode prog_118_method_2_code 8 = .ok (.getfield 36, 3) := by decide +kernel
theorem d4_11 : decode prog_118_method_2_code 11 = .ok (.ldc 39, 2) := by decide +kernel
theorem d4_13 : decode prog_118_method_2_code 13 = .ok (.if_icmp .ne 7, 3) := by decide +kernel
theorem d4_16 : decode prog_118_method_2_code 16 = .ok (.iconst 1, 1) := by decide +kernel
theorem d4_17 : decode prog_118_method_2_code 17 = .ok (.goto 4, 3) := by decide +kernel
theorem d4_21 : decode prog_118_method_2_code 21 = .ok (.ireturn, 1) := by decide +kernel
theorem d4_20 : decode prog_118_method_2_code 20 = .ok (.iconst 0, 1) := by decide +kernel
theorem pn_4 : plainName "com/example/apq/apq/query/Page" = true := by first | (simp [plainName, overriddenIn]; done) | decide +kernel
theorem d5_0 : decode method_2_code 0 = .ok (.iload_n 0, 1) := by decide +kernel
theorem d5_1 : decode method_2_code 1 = .ok (.ifCond .eq 5, 3) := by decide +kernel
theorem d5_6 : decode method_2_code 6 = .ok (.iload_n 1, 1) := by decide +kernel
theorem d5_7 : decode method_2_code 7 = .ok (.ldc 9, 2) := by decide +kernel
theorem d5_9 : decode method_2_code 9 = .ok (.if_icmp .eq 5, 3) := by decide +kernel
theorem d5_14 : decode method_2_code 14 = .ok (.iconst 1, 1) := by decide +kernel
theorem d5_15 : decode method_2_code 15 = .ok (.ireturn, 1) := by decide +kernel
theorem d5_12 : decode method_2_code 12 = .ok (.iconst 0, 1) := by decide +kernel
theorem d5_13 : decode method_2_code 13 = .ok (.ireturn, 1) := by decide +kernel
theorem d5_4 : decode method_2_code 4 = .ok (.iconst 0, 1) := by decide +kernel
theorem d5_5 : decode method_2_code 5 = .ok (.ireturn, 1) := by decide +kernel
theorem pn_5 : plainName "com/example/apq/apq/query/PageWholePinLaw" = true := by first | (simp [plainName, overriddenIn]; done) | decide +kernel
theorem pd__II_V : parseMethodDescriptor "(II)V" = some ⟨[.int, .int], none⟩ := by decide +kernel
theorem pd___Z : parseMethodDescriptor "()Z" = some ⟨[], some .boolean⟩ := by decide +kernel
theorem pd__II_Z : parseMethodDescriptor "(II)Z" = some ⟨[.int, .int], some .boolean⟩ := by decide +kernel
theorem pn_0 : plainName "com/example/apq/apq/query/PageWholePinLaw" = true := by first | (simp [plainName, overriddenIn]; done) | decide +kernel
theorem ef_rmRec (m : MethodId) (u0 : Addr) : entryFrame m #[(.ref u0)] 1 = mkF m 0 #[.val (.ref u0)] [] := by first | (simp [entryFrame, mkF, argsToLocals, Value.category]; done) | rfl
set_option maxRecDepth 65536 in
set_option maxHeartbeats 40000000 in
theorem rmRec (l : Launch) (Z : State) (a0 : Array Value) (hw : ∀ d ∈ tables_1, d.before a0 Z = true) (ws : List Jvm.Cond) (u0 : Addr) (h0 : Heap) (n0 : Nat) (Z0 : n0 ≤ h0.size) :
    MetFree l (⟨"java/lang/Record", "<init>", "()V"⟩ : MethodName) (head1 (Jvm.Cond.code (⟨"java/lang/Record", "<init>", "()V"⟩ : MethodName) jdk_30_method_1_code 1 none :: ws) ({ frames := 1, cells := 0, slots := 0, locals := 12 } : Room)) (fun a U => a = #[(.ref u0)] ∧ Z.Warmed39 U.vm ∧ U.heap = h0) (fun _ _ _ _ _ => True) (fun _ U o U' => ∃ v L, o = .returned v ∧ own_QP none h0 n0 v U'.heap L ∧ FrameEnd U o U' L ({ frames := 1, cells := 0, slots := 0, locals := 12 } : Room).cells ({ frames := 1, cells := 0, slots := 0, locals := 12 } : Room).slots) := by
  refine MetFree.of_bodySF (plainFor_of_name pn_2) hisR ?_
  intro p e s m args below meth c s₁ Bd hml0 hP hK
  obtain ⟨rfl, hZ, hh⟩ := hP
  have hx := Bd.exec
  have hby := Bd.bytes
  have hml : c.maxLocals = 1 := hml0
  have hown : s.vm.findClass "java/lang/Record" = some m.cls := findClass_of_methodNamed Bd.named
  have hnm := (name_of_methodNamed Bd.named Bd.method).1
  have X0 : Stand p l e ({ frames := 1, cells := 0, slots := 0, locals := 12 } : Room) s m #[(.ref u0)] below meth c s₁ [] 0 0 := Stand.of_body Bd
  have e0 : s₁.heap = h0 := by rw [← hh, Bd.state]; rfl
  have N0 := Fr.nil n0
  have pre0 : ∀ t, Steps p.tables e below (s₁.setTop (mkF m 0 #[.val (.ref u0)] [])) t → Steps p.tables e below (s₁.setTop (entryFrame m #[(.ref u0)] 1)) t := fun t k => castTop (ef_rmRec m u0) k
  obtain ⟨T1, X1, e1, st1⟩ := initO X0 hx hZ hown (hw _ (List.mem_of_getElem? (i := 12) rfl)) (hw _ (List.mem_of_getElem? (i := 13) rfl)) (hw _ (List.mem_of_getElem? (i := 14) rfl)) e0 (g := (mkF m 1 #[.val (.ref u0)] [(.ref u0)])) rfl (by rw [hml]; rfl) rfl (hb hby d2_1) (by decide) (W := 0) (by show 2 * 0 + _ ≤ _; exact Nat.le_of_eq rfl) (by decide)
  obtain ⟨fs, hr, hrun, hended, hW, hsame⟩ := X1.leave (v := none) (fun _ => rfl)
  refine ⟨_, _, pre0 _ ?_, hrun, hended, _, _, rfl, ?_, ⟨_, rfl⟩, hW, hsame.mono (by decide) (by decide)⟩
  · show Steps p.tables e below (s₁.setTop (mkF m 0 #[.val (.ref u0)] [])) _
    refine XS.aloadN X0.here hx rfl (hb hby d2_0) rfl rfl ?_
    show Steps p.tables e below (s₁.setTop (mkF m 1 #[.val (.ref u0)] [(.ref u0)])) _
    refine st1 _ ?_
    show Steps p.tables e below (T1.setTop (mkF m 4 #[.val (.ref u0)] [])) _
    exact X1.returnOut hx Bd.returns (hb hby d2_4) hr
  · show own_QP none h0 n0 _ T1.heap _
    rw [e1]
    exact ⟨rfl, N0, rfl⟩

theorem ef_rmIni (m : MethodId) (u0 : Addr) (p1 : Int32) (p2 : Int32) : entryFrame m #[(.ref u0), (.int p1), (.int p2)] 3 = mkF m 0 #[.val (.ref u0), .val (.int p1), .val (.int p2)] [] := by first | (simp [entryFrame, mkF, argsToLocals, Value.category]; done) | rfl
def Q_rmIni (Z : State) (u0 : Addr) (p1 : Int32) (p2 : Int32) (h0 : Heap) (n0 : Nat) (v : Option Value) (h : Heap) (L : List Loc) : Prop := (v = none ∧ Fr n0 L ∧ Keep h0 h [u0] ∧ Fld Z h u0 "com/example/apq/apq/query/Page" "first" "I" (.int p1) ∧ Fld Z h u0 "com/example/apq/apq/query/Page" "max" "I" (.int p2))
set_option maxRecDepth 65536 in
set_option maxHeartbeats 40000000 in
theorem rmIni (l : Launch) (Z : State) (a0 : Array Value) (hw : ∀ d ∈ tables_1, d.before a0 Z = true) (ws : List Jvm.Cond) (u0 : Addr) (p1 : Int32) (p2 : Int32) (h0 : Heap) (n0 : Nat) (Z0 : n0 ≤ h0.size) (P_E_u0 : Exa Z h0 u0 "com/example/apq/apq/query/Page") (P_F_u0_Page_first : Fld Z h0 u0 "com/example/apq/apq/query/Page" "first" "I" (.int (0 : Int32))) (P_F_u0_Page_max : Fld Z h0 u0 "com/example/apq/apq/query/Page" "max" "I" (.int (0 : Int32))) (hp1 : ¬ (p1 < (0 : Int32))) (hp2 : ¬ (p2 < (0 : Int32))) (g_u0 : n0 ≤ u0) :
    MetFree l (⟨"com/example/apq/apq/query/Page", "<init>", "(II)V"⟩ : MethodName) (head1 (Jvm.Cond.code (⟨"com/example/apq/apq/query/Page", "<init>", "(II)V"⟩ : MethodName) prog_118_method_1_code 3 none :: ws) ({ frames := 2, cells := 0, slots := 0, locals := 24 } : Room)) (fun a U => a = #[(.ref u0), (.int p1), (.int p2)] ∧ Z.Warmed39 U.vm ∧ U.heap = h0) (fun _ _ _ _ _ => True) (fun _ U o U' => ∃ v L, o = .returned v ∧ Q_rmIni Z u0 p1 p2 h0 n0 v U'.heap L ∧ FrameEnd U o U' L ({ frames := 2, cells := 0, slots := 0, locals := 24 } : Room).cells ({ frames := 2, cells := 0, slots := 0, locals := 24 } : Room).slots) := by
  refine MetFree.of_bodySF (plainFor_of_name pn_1) hisR ?_
  intro p e s m args below meth c s₁ Bd hml0 hP hK
  obtain ⟨rfl, hZ, hh⟩ := hP
  have hx := Bd.exec
  have hby := Bd.bytes
  have hml : c.maxLocals = 3 := hml0
  have hown : s.vm.findClass "com/example/apq/apq/query/Page" = some m.cls := findClass_of_methodNamed Bd.named
  have hnm := (name_of_methodNamed Bd.named Bd.method).1
  have X0 : Stand p l e ({ frames := 2, cells := 0, slots := 0, locals := 24 } : Room) s m #[(.ref u0), (.int p1), (.int p2)] below meth c s₁ [] 0 0 := Stand.of_body Bd
  have e0 : s₁.heap = h0 := by rw [← hh, Bd.state]; rfl
  have N0 := Fr.nil n0
  have pre0 : ∀ t, Steps p.tables e below (s₁.setTop (mkF m 0 #[.val (.ref u0), .val (.int p1), .val (.int p2)] [])) t → Steps p.tables e below (s₁.setTop (entryFrame m #[(.ref u0), (.int p1), (.int p2)] 3)) t := fun t k => castTop (ef_rmIni m u0 p1 p2) k
  obtain ⟨_, _, ⟨T1, L1, k1, n1⟩, -, X1, ⟨Lc1, hQ1, l1, y1, z1⟩, st1⟩ := X0.specialBack hx (y := (⟨"java/lang/Record", "<init>", "()V"⟩ : MethodName)) rfl hown (mvT hZ (hw _ (List.mem_of_getElem? (i := 7) rfl))) (mvT hZ (hw _ (List.mem_of_getElem? (i := 8) rfl))) (mvT hZ (hw _ (List.mem_of_getElem? (i := 11) rfl))) (by decide) (backOf (W := 0) (rmRec l Z a0 hw [] u0 h0 n0 Z0 ) hZ (hw _ (List.mem_of_getElem? (i := 11) rfl)) (hw _ (List.mem_of_getElem? (i := 10) rfl)) (by decide) (by decide)) (g := (mkF m 1 #[.val (.ref u0), .val (.int p1), .val (.int p2)] [(.ref u0)])) rfl (by rw [hml]; rfl) (Steps.refl _) (a := u0) (argsL := []) (rest := []) (lenOf pd___V rfl) rfl (by show 2 * 0 + _ ≤ _; exact Nat.le_of_eq rfl) (hb hby d1_1) (fun _ _ => ⟨rfl, e0, (by decide : 0 + 0 ≤ _), (by decide : 0 + 0 ≤ _)⟩)
  dsimp only [Pt.U, Pt.locs, Pt.cells, Pt.slots] at X1 l1 y1 z1 st1 hQ1
  subst l1 y1 z1
  obtain ⟨rfl, N1q, e1⟩ := hQ1
  have N1 := Fr.app N0 N1q
  obtain ⟨T2, h2, X2, e2, W2, st2⟩ := putF X1 hx hZ hown (host := "") (Or.inl (hw _ (List.mem_of_getElem? (i := 15) rfl))) Via.refl e1 P_F_u0_Page_first P_E_u0 (Or.inr ⟨(hw _ (List.mem_of_getElem? (i := 16) rfl)), rfl, hnm⟩) (hw _ (List.mem_of_getElem? (i := 2) rfl)) (ty := .int) (by decide) rfl rfl (g := (mkF m 62 #[.val (.ref u0), .val (.int p1), .val (.int p2)] [(.int p1), (.ref u0)])) rfl rfl (hb hby d1_62)
  have f2_ : Fld Z h2 u0 "com/example/apq/apq/query/Page" "first" "I" (.int p1) := P_F_u0_Page_first.same W2
  have N3 := Fr.snoc X2 N1 g_u0
  have K4 : Keep h0 h2 [u0] := (Keep.refl h0 [u0]).wr W2 (Or.inl (List.mem_of_getElem? (i := 0) rfl))
  have f5 : Exa Z h2 u0 "com/example/apq/apq/query/Page" := (P_E_u0.wr W2)
  have f6 : Fld Z h2 u0 "com/example/apq/apq/query/Page" "max" "I" (.int (0 : Int32)) := (P_F_u0_Page_max.other W2 (Or.inr (slot_ne (Or.inr (hw _ (List.mem_of_getElem? (i := 18) rfl))) (Or.inr (hw _ (List.mem_of_getElem? (i := 16) rfl))) (by decide) (t := .int) (t' := .int) (by decide) (by decide))))
  obtain ⟨T7, h7, X7, e7, W7, st7⟩ := putF X2 hx hZ hown (host := "") (Or.inl (hw _ (List.mem_of_getElem? (i := 17) rfl))) Via.refl e2 f6 f5 (Or.inr ⟨(hw _ (List.mem_of_getElem? (i := 18) rfl)), rfl, hnm⟩) (hw _ (List.mem_of_getElem? (i := 2) rfl)) (ty := .int) (by decide) rfl rfl (g := (mkF m 67 #[.val (.ref u0), .val (.int p1), .val (.int p2)] [(.int p2), (.ref u0)])) rfl rfl (hb hby d1_67)
  have f7_ : Fld Z h7 u0 "com/example/apq/apq/query/Page" "max" "I" (.int p2) := f6.same W7
  have N8 := Fr.snoc X7 N3 g_u0
  have K9 : Keep h0 h7 [u0] := K4.wr W7 (Or.inl (List.mem_of_getElem? (i := 0) rfl))
  obtain ⟨fs, hr, hrun, hended, hW, hsame⟩ := X7.leave (v := none) (fun _ => rfl)
  have f10 : Fld Z h7 u0 "com/example/apq/apq/query/Page" "first" "I" (.int p1) := (f2_.other W7 (Or.inr (slot_ne (Or.inr (hw _ (List.mem_of_getElem? (i := 16) rfl))) (Or.inr (hw _ (List.mem_of_getElem? (i := 18) rfl))) (by decide) (t := .int) (t' := .int) (by decide) (by decide))))
  refine ⟨_, _, pre0 _ ?_, hrun, hended, _, _, rfl, ?_, ⟨_, rfl⟩, hW, hsame.mono (by decide) (by decide)⟩
  · show Steps p.tables e below (s₁.setTop (mkF m 0 #[.val (.ref u0), .val (.int p1), .val (.int p2)] [])) _
    refine XS.aloadN X0.here hx rfl (hb hby d1_0) rfl rfl ?_
    show Steps p.tables e below (s₁.setTop (mkF m 1 #[.val (.ref u0), .val (.int p1), .val (.int p2)] [(.ref u0)])) _
    refine st1.trans ?_
    show Steps p.tables e below (T1.setTop (mkF m 4 #[.val (.ref u0), .val (.int p1), .val (.int p2)] [])) _
    refine XS.iloadN X1.here hx rfl (hb hby d1_4) rfl ?_
    show Steps p.tables e below (T1.setTop (mkF m 5 #[.val (.ref u0), .val (.int p1), .val (.int p2)] [(.int p1)])) _
    refine XS.ifYes X1.here hx rfl (pc0 := 5) (pc' := 32) rfl (hb hby d1_5) rfl ((if0 _ _).trans (flt hp1).2.1) (by decide) (by decide) ?_
    show Steps p.tables e below (T1.setTop (mkF m 32 #[.val (.ref u0), .val (.int p1), .val (.int p2)] [])) _
    refine XS.iloadN X1.here hx rfl (hb hby d1_32) rfl ?_
    show Steps p.tables e below (T1.setTop (mkF m 33 #[.val (.ref u0), .val (.int p1), .val (.int p2)] [(.int p2)])) _
    refine XS.ifYes X1.here hx rfl (pc0 := 33) (pc' := 60) rfl (hb hby d1_33) rfl ((if0 _ _).trans (flt hp2).2.1) (by decide) (by decide) ?_
    show Steps p.tables e below (T1.setTop (mkF m 60 #[.val (.ref u0), .val (.int p1), .val (.int p2)] [])) _
    refine XS.aloadN X1.here hx rfl (hb hby d1_60) rfl rfl ?_
    show Steps p.tables e below (T1.setTop (mkF m 61 #[.val (.ref u0), .val (.int p1), .val (.int p2)] [(.ref u0)])) _
    refine XS.iloadN X1.here hx rfl (hb hby d1_61) rfl ?_
    show Steps p.tables e below (T1.setTop (mkF m 62 #[.val (.ref u0), .val (.int p1), .val (.int p2)] [(.int p1), (.ref u0)])) _
    refine st2 _ ?_
    show Steps p.tables e below (T2.setTop (mkF m 65 #[.val (.ref u0), .val (.int p1), .val (.int p2)] [])) _
    refine XS.aloadN X2.here hx rfl (hb hby d1_65) rfl rfl ?_
    show Steps p.tables e below (T2.setTop (mkF m 66 #[.val (.ref u0), .val (.int p1), .val (.int p2)] [(.ref u0)])) _
    refine XS.iloadN X2.here hx rfl (hb hby d1_66) rfl ?_
    show Steps p.tables e below (T2.setTop (mkF m 67 #[.val (.ref u0), .val (.int p1), .val (.int p2)] [(.int p2), (.ref u0)])) _
    refine st7 _ ?_
    show Steps p.tables e below (T7.setTop (mkF m 70 #[.val (.ref u0), .val (.int p1), .val (.int p2)] [])) _
    exact X7.returnOut hx Bd.returns (hb hby d1_70) hr
  · show Q_rmIni Z u0 p1 p2 h0 n0 _ T7.heap _
    rw [e7]
    exact ⟨rfl, N8, K9, f10, f7_⟩

theorem ef_rmWho (m : MethodId) (u0 : Addr) : entryFrame m #[(.ref u0)] 1 = mkF m 0 #[.val (.ref u0)] [] := by first | (simp [entryFrame, mkF, argsToLocals, Value.category]; done) | rfl
set_option maxRecDepth 65536 in
set_option maxHeartbeats 40000000 in
theorem rmWho (l : Launch) (Z : State) (a0 : Array Value) (hw : ∀ d ∈ tables_1, d.before a0 Z = true) (ws : List Jvm.Cond) (u0 : Addr) (f : Int32) (x : Int32) (h0 : Heap) (n0 : Nat) (Z0 : n0 ≤ h0.size) (P_F_u0_Page_first : Fld Z h0 u0 "com/example/apq/apq/query/Page" "first" "I" (.int f)) (P_F_u0_Page_max : Fld Z h0 u0 "com/example/apq/apq/query/Page" "max" "I" (.int x)) :
    MetFree l (⟨"com/example/apq/apq/query/Page", "whole", "()Z"⟩ : MethodName) (head1 (Jvm.Cond.code (⟨"com/example/apq/apq/query/Page", "whole", "()Z"⟩ : MethodName) prog_118_method_2_code 1 (some .boolean) :: ws) ({ frames := 0, cells := 0, slots := 0, locals := 0 } : Room)) (fun a U => a = #[(.ref u0)] ∧ Z.Warmed39 U.vm ∧ U.heap = h0) (fun _ _ _ _ _ => True) (fun _ U o U' => ∃ v L, o = .returned v ∧ own_QP (some (.int (own_wh f x))) h0 n0 v U'.heap L ∧ FrameEnd U o U' L ({ frames := 0, cells := 0, slots := 0, locals := 0 } : Room).cells ({ frames := 0, cells := 0, slots := 0, locals := 0 } : Room).slots) := by
  refine MetFree.of_bodySF (plainFor_of_name pn_4) hisR ?_
  intro p e s m args below meth c s₁ Bd hml0 hP hK
  obtain ⟨rfl, hZ, hh⟩ := hP
  have hx := Bd.exec
  have hby := Bd.bytes
  have hml : c.maxLocals = 1 := hml0
  have hown : s.vm.findClass "com/example/apq/apq/query/Page" = some m.cls := findClass_of_methodNamed Bd.named
  have hnm := (name_of_methodNamed Bd.named Bd.method).1
  have X0 : Stand p l e ({ frames := 0, cells := 0, slots := 0, locals := 0 } : Room) s m #[(.ref u0)] below meth c s₁ [] 0 0 := Stand.of_body Bd
  have e0 : s₁.heap = h0 := by rw [← hh, Bd.state]; rfl
  have N0 := Fr.nil n0
  have pre0 : ∀ t, Steps p.tables e below (s₁.setTop (mkF m 0 #[.val (.ref u0)] [])) t → Steps p.tables e below (s₁.setTop (entryFrame m #[(.ref u0)] 1)) t := fun t k => castTop (ef_rmWho m u0) k
  obtain ⟨T1, X1, e1, st1⟩ := getF X0 hx hZ hown (host := "") (Or.inl (hw _ (List.mem_of_getElem? (i := 15) rfl))) Via.refl e0 P_F_u0_Page_first (g := (mkF m 1 #[.val (.ref u0)] [(.ref u0)])) rfl rfl (hb hby d4_1)
  have pre3 : ∀ t, Steps p.tables e below (T1.setTop (mkF m 4 #[.val (.ref u0)] [(.int f)])) t → Steps p.tables e below (s₁.setTop (entryFrame m #[(.ref u0)] 1)) t := fun t kt => pre0 t (by
      show Steps p.tables e below (s₁.setTop (mkF m 0 #[.val (.ref u0)] [])) _
      refine XS.aloadN X0.here hx rfl (hb hby d4_0) rfl rfl ?_
      show Steps p.tables e below (s₁.setTop (mkF m 1 #[.val (.ref u0)] [(.ref u0)])) _
      refine st1 _ ?_
      exact kt)
  by_cases hc4_2 : f = (0 : Int32)
  · obtain ⟨T4, X4, e4, st4⟩ := getF X1 hx hZ hown (host := "") (Or.inl (hw _ (List.mem_of_getElem? (i := 17) rfl))) Via.refl e1 P_F_u0_Page_max (g := (mkF m 8 #[.val (.ref u0)] [(.ref u0)])) rfl rfl (hb hby d4_8)
    have pre6 : ∀ t, Steps p.tables e below (T4.setTop (mkF m 13 #[.val (.ref u0)] [(.int (2147483647 : Int32)), (.int x)])) t → Steps p.tables e below (s₁.setTop (entryFrame m #[(.ref u0)] 1)) t := fun t kt => pre3 t (by
        show Steps p.tables e below (T1.setTop (mkF m 4 #[.val (.ref u0)] [(.int f)])) _
        refine XS.ifNo X1.here hx rfl (hb hby d4_4) rfl ((if0 _ _).trans (teq hc4_2).2) ?_
        show Steps p.tables e below (T1.setTop (mkF m 7 #[.val (.ref u0)] [])) _
        refine XS.aloadN X1.here hx rfl (hb hby d4_7) rfl rfl ?_
        show Steps p.tables e below (T1.setTop (mkF m 8 #[.val (.ref u0)] [(.ref u0)])) _
        refine st4 _ ?_
        show Steps p.tables e below (T4.setTop (mkF m 11 #[.val (.ref u0)] [(.int x)])) _
        refine X4.ldcInt hx hown (mvT hZ (hw _ (List.mem_of_getElem? (i := 24) rfl))) (g := (mkF m 11 #[.val (.ref u0)] [(.int x)])) rfl (hb hby d4_11) _ ?_
        exact kt)
    by_cases hc13_5 : x = (2147483647 : Int32)
    · obtain ⟨fs, hr, hrun, hended, hW, hsame⟩ := X4.leave (v := some (.int (1 : Int32))) (fun h => by rw [Bd.returns] at h; cases h)
      refine ⟨_, _, pre6 _ ?_, hrun, hended, _, _, rfl, ?_, ⟨_, rfl⟩, hW, hsame.mono (by decide) (by decide)⟩
      · show Steps p.tables e below (T4.setTop (mkF m 13 #[.val (.ref u0)] [(.int (2147483647 : Int32)), (.int x)])) _
        refine XS.icmpNo X4.here hx rfl (hb hby d4_13) rfl (teq hc13_5).2 ?_
        show Steps p.tables e below (T4.setTop (mkF m 16 #[.val (.ref u0)] [])) _
        refine XS.iconst X4.here hx rfl (hb hby d4_16) ?_
        show Steps p.tables e below (T4.setTop (mkF m 17 #[.val (.ref u0)] [(.int (1 : Int32))])) _
        refine XS.goto X4.here hx rfl (pc0 := 17) (pc' := 21) rfl (hb hby d4_17) (by decide) (by decide) ?_
        show Steps p.tables e below (T4.setTop (mkF m 21 #[.val (.ref u0)] [(.int (1 : Int32))])) _
        exact retN X4 hx (t := .boolean) Bd.returns (by simp) (hb hby d4_21) hr
      · show own_QP (some (.int (own_wh f x))) h0 n0 _ T4.heap _
        rw [e4]
        exact ⟨(by first | rfl | simp [own_wh, hc4_2, hc13_5]), N0, rfl⟩
    · obtain ⟨fs, hr, hrun, hended, hW, hsame⟩ := X4.leave (v := some (.int (0 : Int32))) (fun h => by rw [Bd.returns] at h; cases h)
      refine ⟨_, _, pre6 _ ?_, hrun, hended, _, _, rfl, ?_, ⟨_, rfl⟩, hW, hsame.mono (by decide) (by decide)⟩
      · show Steps p.tables e below (T4.setTop (mkF m 13 #[.val (.ref u0)] [(.int (2147483647 : Int32)), (.int x)])) _
        refine XS.icmpYes X4.here hx rfl (pc0 := 13) (pc' := 20) rfl (hb hby d4_13) rfl (feq hc13_5).2 (by decide) (by decide) ?_
        show Steps p.tables e below (T4.setTop (mkF m 20 #[.val (.ref u0)] [])) _
        refine XS.iconst X4.here hx rfl (hb hby d4_20) ?_
        show Steps p.tables e below (T4.setTop (mkF m 21 #[.val (.ref u0)] [(.int (0 : Int32))])) _
        exact retN X4 hx (t := .boolean) Bd.returns (by simp) (hb hby d4_21) hr
      · show own_QP (some (.int (own_wh f x))) h0 n0 _ T4.heap _
        rw [e4]
        exact ⟨(by first | rfl | simp [own_wh, hc4_2, hc13_5]), N0, rfl⟩
  · obtain ⟨fs, hr, hrun, hended, hW, hsame⟩ := X1.leave (v := some (.int (0 : Int32))) (fun h => by rw [Bd.returns] at h; cases h)
    refine ⟨_, _, pre3 _ ?_, hrun, hended, _, _, rfl, ?_, ⟨_, rfl⟩, hW, hsame.mono (by decide) (by decide)⟩
    · show Steps p.tables e below (T1.setTop (mkF m 4 #[.val (.ref u0)] [(.int f)])) _
      refine XS.ifYes X1.here hx rfl (pc0 := 4) (pc' := 20) rfl (hb hby d4_4) rfl ((if0 _ _).trans (feq hc4_2).2) (by decide) (by decide) ?_
      show Steps p.tables e below (T1.setTop (mkF m 20 #[.val (.ref u0)] [])) _
      refine XS.iconst X1.here hx rfl (hb hby d4_20) ?_
      show Steps p.tables e below (T1.setTop (mkF m 21 #[.val (.ref u0)] [(.int (0 : Int32))])) _
      exact retN X1 hx (t := .boolean) Bd.returns (by simp) (hb hby d4_21) hr
    · show own_QP (some (.int (own_wh f x))) h0 n0 _ T1.heap _
      rw [e1]
      exact ⟨(by first | rfl | simp [own_wh, hc4_2]), N0, rfl⟩

theorem ef_rmExp (m : MethodId) (p0 : Int32) (p1 : Int32) : entryFrame m #[(.int p0), (.int p1)] 2 = mkF m 0 #[.val (.int p0), .val (.int p1)] [] := by first | (simp [entryFrame, mkF, argsToLocals, Value.category]; done) | rfl
set_option maxRecDepth 65536 in
set_option maxHeartbeats 40000000 in
theorem rmExp (l : Launch) (Z : State) (a0 : Array Value) (hw : ∀ d ∈ tables_1, d.before a0 Z = true) (ws : List Jvm.Cond) (p0 : Int32) (p1 : Int32) (h0 : Heap) (n0 : Nat) (Z0 : n0 ≤ h0.size) :
    MetFree l (⟨"com/example/apq/apq/query/PageWholePinLaw", "expected", "(II)Z"⟩ : MethodName) (head1 (Jvm.Cond.code (⟨"com/example/apq/apq/query/PageWholePinLaw", "expected", "(II)Z"⟩ : MethodName) method_2_code 2 (some .boolean) :: ws) ({ frames := 0, cells := 0, slots := 0, locals := 0 } : Room)) (fun a U => a = #[(.int p0), (.int p1)] ∧ Z.Warmed39 U.vm ∧ U.heap = h0) (fun _ _ _ _ _ => True) (fun _ U o U' => ∃ v L, o = .returned v ∧ own_QP (some (.int (own_wh p0 p1))) h0 n0 v U'.heap L ∧ FrameEnd U o U' L ({ frames := 0, cells := 0, slots := 0, locals := 0 } : Room).cells ({ frames := 0, cells := 0, slots := 0, locals := 0 } : Room).slots) := by
  refine MetFree.of_bodySF (plainFor_of_name pn_5) hisR ?_
  intro p e s m args below meth c s₁ Bd hml0 hP hK
  obtain ⟨rfl, hZ, hh⟩ := hP
  have hx := Bd.exec
  have hby := Bd.bytes
  have hml : c.maxLocals = 2 := hml0
  have hown : s.vm.findClass "com/example/apq/apq/query/PageWholePinLaw" = some m.cls := findClass_of_methodNamed Bd.named
  have hnm := (name_of_methodNamed Bd.named Bd.method).1
  have X0 : Stand p l e ({ frames := 0, cells := 0, slots := 0, locals := 0 } : Room) s m #[(.int p0), (.int p1)] below meth c s₁ [] 0 0 := Stand.of_body Bd
  have e0 : s₁.heap = h0 := by rw [← hh, Bd.state]; rfl
  have N0 := Fr.nil n0
  have pre0 : ∀ t, Steps p.tables e below (s₁.setTop (mkF m 0 #[.val (.int p0), .val (.int p1)] [])) t → Steps p.tables e below (s₁.setTop (entryFrame m #[(.int p0), (.int p1)] 2)) t := fun t k => castTop (ef_rmExp m p0 p1) k
  have pre2 : ∀ t, Steps p.tables e below (s₁.setTop (mkF m 1 #[.val (.int p0), .val (.int p1)] [(.int p0)])) t → Steps p.tables e below (s₁.setTop (entryFrame m #[(.int p0), (.int p1)] 2)) t := fun t kt => pre0 t (by
      show Steps p.tables e below (s₁.setTop (mkF m 0 #[.val (.int p0), .val (.int p1)] [])) _
      refine XS.iloadN X0.here hx rfl (hb hby d5_0) rfl ?_
      exact kt)
  by_cases hc1_1 : p0 = (0 : Int32)
  · have pre4 : ∀ t, Steps p.tables e below (s₁.setTop (mkF m 9 #[.val (.int p0), .val (.int p1)] [(.int (2147483647 : Int32)), (.int p1)])) t → Steps p.tables e below (s₁.setTop (entryFrame m #[(.int p0), (.int p1)] 2)) t := fun t kt => pre2 t (by
        show Steps p.tables e below (s₁.setTop (mkF m 1 #[.val (.int p0), .val (.int p1)] [(.int p0)])) _
        refine XS.ifYes X0.here hx rfl (pc0 := 1) (pc' := 6) rfl (hb hby d5_1) rfl ((if0 _ _).trans (teq hc1_1).1) (by decide) (by decide) ?_
        show Steps p.tables e below (s₁.setTop (mkF m 6 #[.val (.int p0), .val (.int p1)] [])) _
        refine XS.iloadN X0.here hx rfl (hb hby d5_6) rfl ?_
        show Steps p.tables e below (s₁.setTop (mkF m 7 #[.val (.int p0), .val (.int p1)] [(.int p1)])) _
        refine X0.ldcInt hx hown (mvT hZ (hw _ (List.mem_of_getElem? (i := 0) rfl))) (g := (mkF m 7 #[.val (.int p0), .val (.int p1)] [(.int p1)])) rfl (hb hby d5_7) _ ?_
        exact kt)
    by_cases hc9_3 : p1 = (2147483647 : Int32)
    · obtain ⟨fs, hr, hrun, hended, hW, hsame⟩ := X0.leave (v := some (.int (1 : Int32))) (fun h => by rw [Bd.returns] at h; cases h)
      refine ⟨_, _, pre4 _ ?_, hrun, hended, _, _, rfl, ?_, ⟨_, rfl⟩, hW, hsame.mono (by decide) (by decide)⟩
      · show Steps p.tables e below (s₁.setTop (mkF m 9 #[.val (.int p0), .val (.int p1)] [(.int (2147483647 : Int32)), (.int p1)])) _
        refine XS.icmpYes X0.here hx rfl (pc0 := 9) (pc' := 14) rfl (hb hby d5_9) rfl (teq hc9_3).1 (by decide) (by decide) ?_
        show Steps p.tables e below (s₁.setTop (mkF m 14 #[.val (.int p0), .val (.int p1)] [])) _
        refine XS.iconst X0.here hx rfl (hb hby d5_14) ?_
        show Steps p.tables e below (s₁.setTop (mkF m 15 #[.val (.int p0), .val (.int p1)] [(.int (1 : Int32))])) _
        exact retN X0 hx (t := .boolean) Bd.returns (by simp) (hb hby d5_15) hr
      · show own_QP (some (.int (own_wh p0 p1))) h0 n0 _ s₁.heap _
        rw [e0]
        exact ⟨(by first | rfl | simp [own_wh, hc1_1, hc9_3]), N0, rfl⟩
    · obtain ⟨fs, hr, hrun, hended, hW, hsame⟩ := X0.leave (v := some (.int (0 : Int32))) (fun h => by rw [Bd.returns] at h; cases h)
      refine ⟨_, _, pre4 _ ?_, hrun, hended, _, _, rfl, ?_, ⟨_, rfl⟩, hW, hsame.mono (by decide) (by decide)⟩
      · show Steps p.tables e below (s₁.setTop (mkF m 9 #[.val (.int p0), .val (.int p1)] [(.int (2147483647 : Int32)), (.int p1)])) _
        refine XS.icmpNo X0.here hx rfl (hb hby d5_9) rfl (feq hc9_3).1 ?_
        show Steps p.tables e below (s₁.setTop (mkF m 12 #[.val (.int p0), .val (.int p1)] [])) _
        refine XS.iconst X0.here hx rfl (hb hby d5_12) ?_
        show Steps p.tables e below (s₁.setTop (mkF m 13 #[.val (.int p0), .val (.int p1)] [(.int (0 : Int32))])) _
        exact retN X0 hx (t := .boolean) Bd.returns (by simp) (hb hby d5_13) hr
      · show own_QP (some (.int (own_wh p0 p1))) h0 n0 _ s₁.heap _
        rw [e0]
        exact ⟨(by first | rfl | simp [own_wh, hc1_1, hc9_3]), N0, rfl⟩
  · obtain ⟨fs, hr, hrun, hended, hW, hsame⟩ := X0.leave (v := some (.int (0 : Int32))) (fun h => by rw [Bd.returns] at h; cases h)
    refine ⟨_, _, pre2 _ ?_, hrun, hended, _, _, rfl, ?_, ⟨_, rfl⟩, hW, hsame.mono (by decide) (by decide)⟩
    · show Steps p.tables e below (s₁.setTop (mkF m 1 #[.val (.int p0), .val (.int p1)] [(.int p0)])) _
      refine XS.ifNo X0.here hx rfl (hb hby d5_1) rfl ((if0 _ _).trans (feq hc1_1).1) ?_
      show Steps p.tables e below (s₁.setTop (mkF m 4 #[.val (.int p0), .val (.int p1)] [])) _
      refine XS.iconst X0.here hx rfl (hb hby d5_4) ?_
      show Steps p.tables e below (s₁.setTop (mkF m 5 #[.val (.int p0), .val (.int p1)] [(.int (0 : Int32))])) _
      exact retN X0 hx (t := .boolean) Bd.returns (by simp) (hb hby d5_5) hr
    · show own_QP (some (.int (own_wh p0 p1))) h0 n0 _ s₁.heap _
      rw [e0]
      exact ⟨(by first | rfl | simp [own_wh, hc1_1]), N0, rfl⟩

theorem ef_rm0 (m : MethodId) (p0 : Int32) (p1 : Int32) : entryFrame m #[(.int p0), (.int p1)] maxLocals = mkF m 0 #[.val (.int p0), .val (.int p1), .unset, .unset, .unset, .unset, .unset] [] := by first | (simp [entryFrame, mkF, argsToLocals, Value.category, maxLocals]; done) | rfl
set_option maxRecDepth 65536 in
set_option maxHeartbeats 40000000 in
theorem rm0 (l : Launch) (Z : State) (a0 : Array Value) (hw : ∀ d ∈ tables_1, d.before a0 Z = true) (ws : List Jvm.Cond) (p0 : Int32) (p1 : Int32) (wL : Addr) (h0 : Heap) (n0 : Nat) (Z0 : n0 ≤ h0.size) (P_S_Page_ALL : Sta Z h0 "com/example/apq/apq/query/Page" "ALL" "Lcom/example/apq/apq/query/Page;" (.ref wL)) (P_E_wL : Exa Z h0 wL "com/example/apq/apq/query/Page") (P_F_wL_Page_first : Fld Z h0 wL "com/example/apq/apq/query/Page" "first" "I" (.int (0 : Int32))) (P_F_wL_Page_max : Fld Z h0 wL "com/example/apq/apq/query/Page" "max" "I" (.int (2147483647 : Int32))) :
    MetFree l x (head1 (Jvm.Cond.code x code maxLocals ret :: ws) room_1) (fun a U => a = #[(.int p0), (.int p1)] ∧ Z.Warmed39 U.vm ∧ U.heap = h0) (fun _ _ _ _ _ => True) (fun _ U o U' => ∃ v L, o = .returned v ∧ own_Q0 n0 v U'.heap L ∧ FrameEnd U o U' L room_1.cells room_1.slots) := by
  refine MetFree.of_bodySF (plainFor_of_name pn_0) hisR ?_
  intro p e s m args below meth c s₁ Bd hml0 hP hK
  obtain ⟨rfl, hZ, hh⟩ := hP
  have hx := Bd.exec
  have hby := Bd.bytes
  have hml : c.maxLocals = 7 := hml0
  have hown : s.vm.findClass "com/example/apq/apq/query/PageWholePinLaw" = some m.cls := findClass_of_methodNamed Bd.named
  have hnm := (name_of_methodNamed Bd.named Bd.method).1
  have X0 : Stand p l e room_1 s m #[(.int p0), (.int p1)] below meth c s₁ [] 0 0 := Stand.of_body Bd
  have e0 : s₁.heap = h0 := by rw [← hh, Bd.state]; rfl
  have N0 := Fr.nil n0
  have pre0 : ∀ t, Steps p.tables e below (s₁.setTop (mkF m 0 #[.val (.int p0), .val (.int p1), .unset, .unset, .unset, .unset, .unset] [])) t → Steps p.tables e below (s₁.setTop (entryFrame m #[(.int p0), (.int p1)] maxLocals)) t := fun t k => castTop (ef_rm0 m p0 p1) k
  have pre2 : ∀ t, Steps p.tables e below (s₁.setTop (mkF m 3 #[.val (.int p0), .val (.int p1), .unset, .unset, .unset, .unset, .unset] [(.int (p0 &&& (1 : Int32)))])) t → Steps p.tables e below (s₁.setTop (entryFrame m #[(.int p0), (.int p1)] maxLocals)) t := fun t kt => pre0 t (by
      show Steps p.tables e below (s₁.setTop (mkF m 0 #[.val (.int p0), .val (.int p1), .unset, .unset, .unset, .unset, .unset] [])) _
      refine XS.iloadN X0.here hx rfl (hb hby at_0) rfl ?_
      show Steps p.tables e below (s₁.setTop (mkF m 1 #[.val (.int p0), .val (.int p1), .unset, .unset, .unset, .unset, .unset] [(.int p0)])) _
      refine XS.iconst X0.here hx rfl (hb hby at_1) ?_
      show Steps p.tables e below (s₁.setTop (mkF m 2 #[.val (.int p0), .val (.int p1), .unset, .unset, .unset, .unset, .unset] [(.int (1 : Int32)), (.int p0)])) _
      refine XS.iand X0.here hx rfl (hb hby at_2) rfl ?_
      exact kt)
  by_cases hc3_1 : (p0 &&& (1 : Int32)) = (0 : Int32)
  · have pre4 : ∀ t, Steps p.tables e below (s₁.setTop (mkF m 18 #[.val (.int p0), .val (.int p1), .val (.int (0 : Int32)), .unset, .unset, .unset, .unset] [(.int (p1 &&& (1 : Int32)))])) t → Steps p.tables e below (s₁.setTop (entryFrame m #[(.int p0), (.int p1)] maxLocals)) t := fun t kt => pre2 t (by
        show Steps p.tables e below (s₁.setTop (mkF m 3 #[.val (.int p0), .val (.int p1), .unset, .unset, .unset, .unset, .unset] [(.int (p0 &&& (1 : Int32)))])) _
        refine XS.ifNo X0.here hx rfl (hb hby at_3) rfl ((if0 _ _).trans (teq hc3_1).2) ?_
        show Steps p.tables e below (s₁.setTop (mkF m 6 #[.val (.int p0), .val (.int p1), .unset, .unset, .unset, .unset, .unset] [])) _
        refine XS.iconst X0.here hx rfl (hb hby at_6) ?_
        show Steps p.tables e below (s₁.setTop (mkF m 7 #[.val (.int p0), .val (.int p1), .unset, .unset, .unset, .unset, .unset] [(.int (0 : Int32))])) _
        refine XS.goto X0.here hx rfl (pc0 := 7) (pc' := 14) rfl (hb hby at_7) (by decide) (by decide) ?_
        show Steps p.tables e below (s₁.setTop (mkF m 14 #[.val (.int p0), .val (.int p1), .unset, .unset, .unset, .unset, .unset] [(.int (0 : Int32))])) _
        refine XS.istoreN X0.here hx rfl (hb hby at_14) rfl (l' := #[.val (.int p0), .val (.int p1), .val (.int (0 : Int32)), .unset, .unset, .unset, .unset]) rfl ?_
        show Steps p.tables e below (s₁.setTop (mkF m 15 #[.val (.int p0), .val (.int p1), .val (.int (0 : Int32)), .unset, .unset, .unset, .unset] [])) _
        refine XS.iloadN X0.here hx rfl (hb hby at_15) rfl ?_
        show Steps p.tables e below (s₁.setTop (mkF m 16 #[.val (.int p0), .val (.int p1), .val (.int (0 : Int32)), .unset, .unset, .unset, .unset] [(.int p1)])) _
        refine XS.iconst X0.here hx rfl (hb hby at_16) ?_
        show Steps p.tables e below (s₁.setTop (mkF m 17 #[.val (.int p0), .val (.int p1), .val (.int (0 : Int32)), .unset, .unset, .unset, .unset] [(.int (1 : Int32)), (.int p1)])) _
        refine XS.iand X0.here hx rfl (hb hby at_17) rfl ?_
        exact kt)
    by_cases hc18_3 : (p1 &&& (1 : Int32)) = (0 : Int32)
    · obtain ⟨T5, h5, X5, e5, E5, A5, D5, U5, st5⟩ := newO X0 hx hZ hown (hw _ (List.mem_of_getElem? (i := 1) rfl)) (hw _ (List.mem_of_getElem? (i := 2) rfl)) (hw _ (List.mem_of_getElem? (i := 3) rfl)) e0 (g := (mkF m 31 #[.val (.int p0), .val (.int p1), .val (.int (0 : Int32)), .val (.int (2147483647 : Int32)), .unset, .unset, .unset] [])) rfl (hb hby at_31) (by decide) (by decide)
      obtain ⟨b5, g5⟩ : ∃ z, z = h0.size := ⟨_, rfl⟩
      rw [← g5] at A5 D5 U5 st5
      have ne6 : wL ≠ b5 := Nat.ne_of_lt (Nat.lt_of_lt_of_le P_E_wL.lt (Nat.le_of_eq g5.symm))
      have o5 : n0 ≤ b5 := Nat.le_trans Z0 (Nat.le_of_eq g5.symm)
      have z5 : h0.size ≤ b5 := Nat.le_trans (Keep.refl h0 []).1 (Nat.le_of_eq g5.symm)
      have K5 : Keep h0 h5 [] := (Keep.refl h0 []).ext E5
      have f7 : Fld Z h5 b5 "com/example/apq/apq/query/Page" "first" "I" (.int (0 : Int32)) := D5 (Or.inr (hw _ (List.mem_of_getElem? (i := 16) rfl))) (ty := .int) (by decide)
      have f8 : Fld Z h5 b5 "com/example/apq/apq/query/Page" "max" "I" (.int (0 : Int32)) := D5 (Or.inr (hw _ (List.mem_of_getElem? (i := 18) rfl))) (ty := .int) (by decide)
      have f9 : n0 ≤ h5.size := (Nat.le_trans Z0 E5.1)
      obtain ⟨_, _, ⟨T10, L10, k10, n10⟩, -, X10, ⟨Lc10, hQ10, l10, y10, z10⟩, st10⟩ := X5.specialBack hx (y := (⟨"com/example/apq/apq/query/Page", "<init>", "(II)V"⟩ : MethodName)) rfl hown (mvT hZ (hw _ (List.mem_of_getElem? (i := 4) rfl))) (mvT hZ (hw _ (List.mem_of_getElem? (i := 5) rfl))) (mvT hZ (hw _ (List.mem_of_getElem? (i := 6) rfl))) (by decide) (backOf (W := 1) (rmIni l Z a0 hw [] b5 (0 : Int32) (2147483647 : Int32) h5 n0 f9 A5 f7 f8 (by decide : ¬ ((0 : Int32) < (0 : Int32))) (by decide : ¬ ((2147483647 : Int32) < (0 : Int32))) o5) hZ (hw _ (List.mem_of_getElem? (i := 6) rfl)) (hw _ (List.mem_of_getElem? (i := 3) rfl)) (by decide) (by decide)) (g := (mkF m 37 #[.val (.int p0), .val (.int p1), .val (.int (0 : Int32)), .val (.int (2147483647 : Int32)), .unset, .unset, .unset] [(.int (2147483647 : Int32)), (.int (0 : Int32)), (.ref b5), (.ref b5)])) rfl (by rw [hml]; rfl) (Steps.refl _) (a := b5) (argsL := [(.int (0 : Int32)), (.int (2147483647 : Int32))]) (rest := [(.ref b5)]) (lenOf pd__II_V rfl) rfl (by show 2 * 0 + _ ≤ _; exact Nat.le_of_eq rfl) (hb hby at_37) (fun _ _ => ⟨rfl, e5, (by decide : 1 + 0 ≤ _), (by decide : 2 + 0 ≤ _)⟩)
      dsimp only [Pt.U, Pt.locs, Pt.cells, Pt.slots] at X10 l10 y10 z10 st10 hQ10
      subst l10 y10 z10
      obtain ⟨rfl, N10q, K10, f11, f12⟩ := hQ10
      have KK10 : Keep h0 T10.heap [] := Keep.trans K5 K10 (allS (Or.inr z5) all0)
      have N10 := Fr.app N0 N10q
      have f13 : n0 ≤ T10.heap.size := (Nat.le_trans f9 K10.1)
      have f15 : Exa Z T10.heap b5 "com/example/apq/apq/query/Page" := (A5.keep K10)
      obtain ⟨cq16, kq16, q16a, q16b, q16c⟩ := isOf hZ rfl f15
      obtain ⟨_, _, ⟨T14, L14, k14, n14⟩, -, X14, ⟨Lc14, hQ14, l14, y14, z14⟩, st14⟩ := X10.virtualBack hx (y := (⟨"com/example/apq/apq/query/Page", "whole", "()Z"⟩ : MethodName)) (z := (⟨"com/example/apq/apq/query/Page", "whole", "()Z"⟩ : MethodName)) hown (mvT hZ (hw _ (List.mem_of_getElem? (i := 19) rfl))) (mvT hZ (hw _ (List.mem_of_getElem? (i := 20) rfl))) (notFace_of_selects (args := #[]) (mvT hZ (hw _ (List.mem_of_getElem? (i := 22) rfl)))) (mvT hZ (hw _ (List.mem_of_getElem? (i := 22) rfl))) (mvT hZ (hw _ (List.mem_of_getElem? (i := 21) rfl))) (by decide) (backOf (W := 0) (rmWho l Z a0 hw [] b5 (0 : Int32) (2147483647 : Int32) T10.heap n0 f13 f11 f12) hZ (hw _ (List.mem_of_getElem? (i := 23) rfl)) (hw _ (List.mem_of_getElem? (i := 3) rfl)) (by decide) (by decide)) q16a q16c (g := (mkF m 44 #[.val (.int p0), .val (.int p1), .val (.int (0 : Int32)), .val (.int (2147483647 : Int32)), .val (.ref b5), .unset, .unset] [(.ref b5)])) rfl (by rw [hml]; rfl) (Steps.refl _) (argsL := []) (rest := []) (lenOf pd___Z rfl) rfl (by show 2 * 0 + _ ≤ _; exact Nat.le_of_eq rfl) (hb hby at_44) (fun _ _ => ⟨rfl, rfl, (by decide : 1 + 0 ≤ _), (by decide : 2 + 0 ≤ _)⟩)
      dsimp only [Pt.U, Pt.locs, Pt.cells, Pt.slots] at X14 l14 y14 z14 st14 hQ14
      subst l14 y14 z14
      obtain ⟨rfl, N14q, e14⟩ := hQ14
      have N14 := Fr.app N10 N14q
      have f17 : Sta Z T10.heap "com/example/apq/apq/query/Page" "ALL" "Lcom/example/apq/apq/query/Page;" (.ref wL) := (own_staKeep (P_S_Page_ALL.ext E5) K10 (nsS A5.nostat ns0))
      obtain ⟨T18, X18, e18, st18⟩ := getS2 X14 hx hZ hown (host := "") (Or.inl (hw _ (List.mem_of_getElem? (i := 25) rfl))) Via.refl e14 f17 (g := (mkF m 49 #[.val (.int p0), .val (.int p1), .val (.int (0 : Int32)), .val (.int (2147483647 : Int32)), .val (.ref b5), .val (.int (own_wh (0 : Int32) (2147483647 : Int32))), .unset] [])) rfl (hb hby at_49)
      have f19 : Fld Z T10.heap wL "com/example/apq/apq/query/Page" "first" "I" (.int (0 : Int32)) := ((P_F_wL_Page_first.ext E5).keep K10 (ninS ne6 nin0))
      have f20 : Fld Z T10.heap wL "com/example/apq/apq/query/Page" "max" "I" (.int (2147483647 : Int32)) := ((P_F_wL_Page_max.ext E5).keep K10 (ninS ne6 nin0))
      have f22 : Exa Z T10.heap wL "com/example/apq/apq/query/Page" := ((P_E_wL.ext E5).keep K10)
      obtain ⟨cq23, kq23, q23a, q23b, q23c⟩ := isOf hZ e18 f22
      obtain ⟨_, _, ⟨T21, L21, k21, n21⟩, -, X21, ⟨Lc21, hQ21, l21, y21, z21⟩, st21⟩ := X18.virtualBack hx (y := (⟨"com/example/apq/apq/query/Page", "whole", "()Z"⟩ : MethodName)) (z := (⟨"com/example/apq/apq/query/Page", "whole", "()Z"⟩ : MethodName)) hown (mvT hZ (hw _ (List.mem_of_getElem? (i := 19) rfl))) (mvT hZ (hw _ (List.mem_of_getElem? (i := 20) rfl))) (notFace_of_selects (args := #[]) (mvT hZ (hw _ (List.mem_of_getElem? (i := 22) rfl)))) (mvT hZ (hw _ (List.mem_of_getElem? (i := 22) rfl))) (mvT hZ (hw _ (List.mem_of_getElem? (i := 21) rfl))) (by decide) (backOf (W := 0) (rmWho l Z a0 hw [] wL (0 : Int32) (2147483647 : Int32) T10.heap n0 f13 f19 f20) hZ (hw _ (List.mem_of_getElem? (i := 23) rfl)) (hw _ (List.mem_of_getElem? (i := 3) rfl)) (by decide) (by decide)) q23a q23c (g := (mkF m 52 #[.val (.int p0), .val (.int p1), .val (.int (0 : Int32)), .val (.int (2147483647 : Int32)), .val (.ref b5), .val (.int (own_wh (0 : Int32) (2147483647 : Int32))), .unset] [(.ref wL)])) rfl (by rw [hml]; rfl) (Steps.refl _) (argsL := []) (rest := []) (lenOf pd___Z rfl) rfl (by show 2 * 0 + _ ≤ _; exact Nat.le_of_eq rfl) (hb hby at_52) (fun _ _ => ⟨rfl, e18, (by decide : 1 + 0 ≤ _), (by decide : 2 + 0 ≤ _)⟩)
      dsimp only [Pt.U, Pt.locs, Pt.cells, Pt.slots] at X21 l21 y21 z21 st21 hQ21
      subst l21 y21 z21
      obtain ⟨rfl, N21q, e21⟩ := hQ21
      have N21 := Fr.app N14 N21q
      obtain ⟨_, _, ⟨T24, L24, k24, n24⟩, -, X24, ⟨Lc24, hQ24, l24, y24, z24⟩, st24⟩ := Jvm.LawKit.callS X21 hx (y := (⟨"com/example/apq/apq/query/PageWholePinLaw", "expected", "(II)Z"⟩ : MethodName)) hown (mvT hZ (hw _ (List.mem_of_getElem? (i := 27) rfl))) (mvT hZ (hw _ (List.mem_of_getElem? (i := 28) rfl))) (mvT hZ (hw _ (List.mem_of_getElem? (i := 29) rfl))) (mvT hZ (hw _ (List.mem_of_getElem? (i := 30) rfl))) (by decide) (backOf (W := 1) (rmExp l Z a0 hw [] (0 : Int32) (2147483647 : Int32) T10.heap n0 f13 ) hZ (hw _ (List.mem_of_getElem? (i := 30) rfl)) (hw _ (List.mem_of_getElem? (i := 29) rfl)) (by decide) (by decide)) (g := (mkF m 66 #[.val (.int p0), .val (.int p1), .val (.int (0 : Int32)), .val (.int (2147483647 : Int32)), .val (.ref b5), .val (.int (own_wh (0 : Int32) (2147483647 : Int32))), .val (.int (own_wh (0 : Int32) (2147483647 : Int32)))] [(.int (2147483647 : Int32)), (.int (0 : Int32)), (.int (own_wh (0 : Int32) (2147483647 : Int32)))])) rfl (by rw [hml]; rfl) (argsL := [(.int (0 : Int32)), (.int (2147483647 : Int32))]) (rest := [(.int (own_wh (0 : Int32) (2147483647 : Int32)))]) (lenOf pd__II_Z rfl) rfl (by show 2 * 0 + _ ≤ _; exact Nat.le_of_eq rfl) (hb hby at_66) (fun _ _ => ⟨rfl, e21, (by decide : 1 + 0 ≤ _), (by decide : 2 + 0 ≤ _)⟩)
      dsimp only [Pt.U, Pt.locs, Pt.cells, Pt.slots] at X24 l24 y24 z24 st24 hQ24
      subst l24 y24 z24
      obtain ⟨rfl, N24q, e24⟩ := hQ24
      have N24 := Fr.app N21 N24q
      obtain ⟨fs, hr, hrun, hended, hW, hsame⟩ := X24.leave (v := some (.int (1 : Int32))) (fun h => by rw [Bd.returns] at h; cases h)
      refine ⟨_, _, pre4 _ ?_, hrun, hended, _, _, rfl, ?_, ⟨_, rfl⟩, hW, hsame.mono (by decide) (by decide)⟩
      · show Steps p.tables e below (s₁.setTop (mkF m 18 #[.val (.int p0), .val (.int p1), .val (.int (0 : Int32)), .unset, .unset, .unset, .unset] [(.int (p1 &&& (1 : Int32)))])) _
        refine XS.ifNo X0.here hx rfl (hb hby at_18) rfl ((if0 _ _).trans (teq hc18_3).2) ?_
        show Steps p.tables e below (s₁.setTop (mkF m 21 #[.val (.int p0), .val (.int p1), .val (.int (0 : Int32)), .unset, .unset, .unset, .unset] [])) _
        refine X0.ldcInt hx hown (mvT hZ (hw _ (List.mem_of_getElem? (i := 0) rfl))) (g := (mkF m 21 #[.val (.int p0), .val (.int p1), .val (.int (0 : Int32)), .unset, .unset, .unset, .unset] [])) rfl (hb hby at_21) _ ?_
        show Steps p.tables e below (s₁.setTop (mkF m 23 #[.val (.int p0), .val (.int p1), .val (.int (0 : Int32)), .unset, .unset, .unset, .unset] [(.int (2147483647 : Int32))])) _
        refine XS.goto X0.here hx rfl (pc0 := 23) (pc' := 30) rfl (hb hby at_23) (by decide) (by decide) ?_
        show Steps p.tables e below (s₁.setTop (mkF m 30 #[.val (.int p0), .val (.int p1), .val (.int (0 : Int32)), .unset, .unset, .unset, .unset] [(.int (2147483647 : Int32))])) _
        refine XS.istoreN X0.here hx rfl (hb hby at_30) rfl (l' := #[.val (.int p0), .val (.int p1), .val (.int (0 : Int32)), .val (.int (2147483647 : Int32)), .unset, .unset, .unset]) rfl ?_
        show Steps p.tables e below (s₁.setTop (mkF m 31 #[.val (.int p0), .val (.int p1), .val (.int (0 : Int32)), .val (.int (2147483647 : Int32)), .unset, .unset, .unset] [])) _
        refine st5 _ ?_
        show Steps p.tables e below (T5.setTop (mkF m 34 #[.val (.int p0), .val (.int p1), .val (.int (0 : Int32)), .val (.int (2147483647 : Int32)), .unset, .unset, .unset] [(.ref b5)])) _
        refine XS.dup X5.here hx rfl (hb hby at_34) rfl rfl ?_
        show Steps p.tables e below (T5.setTop (mkF m 35 #[.val (.int p0), .val (.int p1), .val (.int (0 : Int32)), .val (.int (2147483647 : Int32)), .unset, .unset, .unset] [(.ref b5), (.ref b5)])) _
        refine XS.iloadN X5.here hx rfl (hb hby at_35) rfl ?_
        show Steps p.tables e below (T5.setTop (mkF m 36 #[.val (.int p0), .val (.int p1), .val (.int (0 : Int32)), .val (.int (2147483647 : Int32)), .unset, .unset, .unset] [(.int (0 : Int32)), (.ref b5), (.ref b5)])) _
        refine XS.iloadN X5.here hx rfl (hb hby at_36) rfl ?_
        show Steps p.tables e below (T5.setTop (mkF m 37 #[.val (.int p0), .val (.int p1), .val (.int (0 : Int32)), .val (.int (2147483647 : Int32)), .unset, .unset, .unset] [(.int (2147483647 : Int32)), (.int (0 : Int32)), (.ref b5), (.ref b5)])) _
        refine st10.trans ?_
        show Steps p.tables e below (T10.setTop (mkF m 40 #[.val (.int p0), .val (.int p1), .val (.int (0 : Int32)), .val (.int (2147483647 : Int32)), .unset, .unset, .unset] [(.ref b5)])) _
        refine XS.astore X10.here hx rfl (hb hby at_40) rfl rfl (l' := #[.val (.int p0), .val (.int p1), .val (.int (0 : Int32)), .val (.int (2147483647 : Int32)), .val (.ref b5), .unset, .unset]) rfl ?_
        show Steps p.tables e below (T10.setTop (mkF m 42 #[.val (.int p0), .val (.int p1), .val (.int (0 : Int32)), .val (.int (2147483647 : Int32)), .val (.ref b5), .unset, .unset] [])) _
        refine XS.aload X10.here hx rfl (hb hby at_42) rfl rfl ?_
        show Steps p.tables e below (T10.setTop (mkF m 44 #[.val (.int p0), .val (.int p1), .val (.int (0 : Int32)), .val (.int (2147483647 : Int32)), .val (.ref b5), .unset, .unset] [(.ref b5)])) _
        refine st14.trans ?_
        show Steps p.tables e below (T14.setTop (mkF m 47 #[.val (.int p0), .val (.int p1), .val (.int (0 : Int32)), .val (.int (2147483647 : Int32)), .val (.ref b5), .unset, .unset] [(.int (own_wh (0 : Int32) (2147483647 : Int32)))])) _
        refine XS.istore X14.here hx rfl (hb hby at_47) rfl (l' := #[.val (.int p0), .val (.int p1), .val (.int (0 : Int32)), .val (.int (2147483647 : Int32)), .val (.ref b5), .val (.int (own_wh (0 : Int32) (2147483647 : Int32))), .unset]) rfl ?_
        show Steps p.tables e below (T14.setTop (mkF m 49 #[.val (.int p0), .val (.int p1), .val (.int (0 : Int32)), .val (.int (2147483647 : Int32)), .val (.ref b5), .val (.int (own_wh (0 : Int32) (2147483647 : Int32))), .unset] [])) _
        refine st18 _ ?_
        show Steps p.tables e below (T18.setTop (mkF m 52 #[.val (.int p0), .val (.int p1), .val (.int (0 : Int32)), .val (.int (2147483647 : Int32)), .val (.ref b5), .val (.int (own_wh (0 : Int32) (2147483647 : Int32))), .unset] [(.ref wL)])) _
        refine st21.trans ?_
        show Steps p.tables e below (T21.setTop (mkF m 55 #[.val (.int p0), .val (.int p1), .val (.int (0 : Int32)), .val (.int (2147483647 : Int32)), .val (.ref b5), .val (.int (own_wh (0 : Int32) (2147483647 : Int32))), .unset] [(.int (own_wh (0 : Int32) (2147483647 : Int32)))])) _
        refine XS.istore X21.here hx rfl (hb hby at_55) rfl (l' := #[.val (.int p0), .val (.int p1), .val (.int (0 : Int32)), .val (.int (2147483647 : Int32)), .val (.ref b5), .val (.int (own_wh (0 : Int32) (2147483647 : Int32))), .val (.int (own_wh (0 : Int32) (2147483647 : Int32)))]) rfl ?_
        show Steps p.tables e below (T21.setTop (mkF m 57 #[.val (.int p0), .val (.int p1), .val (.int (0 : Int32)), .val (.int (2147483647 : Int32)), .val (.ref b5), .val (.int (own_wh (0 : Int32) (2147483647 : Int32))), .val (.int (own_wh (0 : Int32) (2147483647 : Int32)))] [])) _
        refine XS.iload X21.here hx rfl (hb hby at_57) rfl ?_
        show Steps p.tables e below (T21.setTop (mkF m 59 #[.val (.int p0), .val (.int p1), .val (.int (0 : Int32)), .val (.int (2147483647 : Int32)), .val (.ref b5), .val (.int (own_wh (0 : Int32) (2147483647 : Int32))), .val (.int (own_wh (0 : Int32) (2147483647 : Int32)))] [(.int (own_wh (0 : Int32) (2147483647 : Int32)))])) _
        refine XS.ifNo X21.here hx rfl (hb hby at_59) rfl ((if0 _ _).trans (feq (by decide : ¬ ((own_wh (0 : Int32) (2147483647 : Int32)) = (0 : Int32)))).1) ?_
        show Steps p.tables e below (T21.setTop (mkF m 62 #[.val (.int p0), .val (.int p1), .val (.int (0 : Int32)), .val (.int (2147483647 : Int32)), .val (.ref b5), .val (.int (own_wh (0 : Int32) (2147483647 : Int32))), .val (.int (own_wh (0 : Int32) (2147483647 : Int32)))] [])) _
        refine XS.iload X21.here hx rfl (hb hby at_62) rfl ?_
        show Steps p.tables e below (T21.setTop (mkF m 64 #[.val (.int p0), .val (.int p1), .val (.int (0 : Int32)), .val (.int (2147483647 : Int32)), .val (.ref b5), .val (.int (own_wh (0 : Int32) (2147483647 : Int32))), .val (.int (own_wh (0 : Int32) (2147483647 : Int32)))] [(.int (own_wh (0 : Int32) (2147483647 : Int32)))])) _
        refine XS.iloadN X21.here hx rfl (hb hby at_64) rfl ?_
        show Steps p.tables e below (T21.setTop (mkF m 65 #[.val (.int p0), .val (.int p1), .val (.int (0 : Int32)), .val (.int (2147483647 : Int32)), .val (.ref b5), .val (.int (own_wh (0 : Int32) (2147483647 : Int32))), .val (.int (own_wh (0 : Int32) (2147483647 : Int32)))] [(.int (0 : Int32)), (.int (own_wh (0 : Int32) (2147483647 : Int32)))])) _
        refine XS.iloadN X21.here hx rfl (hb hby at_65) rfl ?_
        show Steps p.tables e below (T21.setTop (mkF m 66 #[.val (.int p0), .val (.int p1), .val (.int (0 : Int32)), .val (.int (2147483647 : Int32)), .val (.ref b5), .val (.int (own_wh (0 : Int32) (2147483647 : Int32))), .val (.int (own_wh (0 : Int32) (2147483647 : Int32)))] [(.int (2147483647 : Int32)), (.int (0 : Int32)), (.int (own_wh (0 : Int32) (2147483647 : Int32)))])) _
        refine st24 _ ?_
        show Steps p.tables e below (T24.setTop (mkF m 69 #[.val (.int p0), .val (.int p1), .val (.int (0 : Int32)), .val (.int (2147483647 : Int32)), .val (.ref b5), .val (.int (own_wh (0 : Int32) (2147483647 : Int32))), .val (.int (own_wh (0 : Int32) (2147483647 : Int32)))] [(.int (own_wh (0 : Int32) (2147483647 : Int32))), (.int (own_wh (0 : Int32) (2147483647 : Int32)))])) _
        refine XS.icmpNo X24.here hx rfl (hb hby at_69) rfl (teq (rfl : (own_wh (0 : Int32) (2147483647 : Int32)) = (own_wh (0 : Int32) (2147483647 : Int32)))).2 ?_
        show Steps p.tables e below (T24.setTop (mkF m 72 #[.val (.int p0), .val (.int p1), .val (.int (0 : Int32)), .val (.int (2147483647 : Int32)), .val (.ref b5), .val (.int (own_wh (0 : Int32) (2147483647 : Int32))), .val (.int (own_wh (0 : Int32) (2147483647 : Int32)))] [])) _
        refine XS.iconst X24.here hx rfl (hb hby at_72) ?_
        show Steps p.tables e below (T24.setTop (mkF m 73 #[.val (.int p0), .val (.int p1), .val (.int (0 : Int32)), .val (.int (2147483647 : Int32)), .val (.ref b5), .val (.int (own_wh (0 : Int32) (2147483647 : Int32))), .val (.int (own_wh (0 : Int32) (2147483647 : Int32)))] [(.int (1 : Int32))])) _
        refine XS.goto X24.here hx rfl (pc0 := 73) (pc' := 77) rfl (hb hby at_73) (by decide) (by decide) ?_
        show Steps p.tables e below (T24.setTop (mkF m 77 #[.val (.int p0), .val (.int p1), .val (.int (0 : Int32)), .val (.int (2147483647 : Int32)), .val (.ref b5), .val (.int (own_wh (0 : Int32) (2147483647 : Int32))), .val (.int (own_wh (0 : Int32) (2147483647 : Int32)))] [(.int (1 : Int32))])) _
        exact retN X24 hx (t := .boolean) Bd.returns (by simp) (hb hby at_77) hr
      · show own_Q0 n0 _ T24.heap _
        rw [e24]
        exact ⟨rfl, N24⟩
    · obtain ⟨T25, h25, X25, e25, E25, A25, D25, U25, st25⟩ := newO X0 hx hZ hown (hw _ (List.mem_of_getElem? (i := 1) rfl)) (hw _ (List.mem_of_getElem? (i := 2) rfl)) (hw _ (List.mem_of_getElem? (i := 3) rfl)) e0 (g := (mkF m 31 #[.val (.int p0), .val (.int p1), .val (.int (0 : Int32)), .val (.int (p1 &&& (2147483647 : Int32))), .unset, .unset, .unset] [])) rfl (hb hby at_31) (by decide) (by decide)
      obtain ⟨b25, g25⟩ : ∃ z, z = h0.size := ⟨_, rfl⟩
      rw [← g25] at A25 D25 U25 st25
      have ne26 : wL ≠ b25 := Nat.ne_of_lt (Nat.lt_of_lt_of_le P_E_wL.lt (Nat.le_of_eq g25.symm))
      have o25 : n0 ≤ b25 := Nat.le_trans Z0 (Nat.le_of_eq g25.symm)
      have z25 : h0.size ≤ b25 := Nat.le_trans (Keep.refl h0 []).1 (Nat.le_of_eq g25.symm)
      have K25 : Keep h0 h25 [] := (Keep.refl h0 []).ext E25
      have f27 : Fld Z h25 b25 "com/example/apq/apq/query/Page" "first" "I" (.int (0 : Int32)) := D25 (Or.inr (hw _ (List.mem_of_getElem? (i := 16) rfl))) (ty := .int) (by decide)
      have f28 : Fld Z h25 b25 "com/example/apq/apq/query/Page" "max" "I" (.int (0 : Int32)) := D25 (Or.inr (hw _ (List.mem_of_getElem? (i := 18) rfl))) (ty := .int) (by decide)
      have f29 : n0 ≤ h25.size := (Nat.le_trans Z0 E25.1)
      obtain ⟨_, _, ⟨T30, L30, k30, n30⟩, -, X30, ⟨Lc30, hQ30, l30, y30, z30⟩, st30⟩ := X25.specialBack hx (y := (⟨"com/example/apq/apq/query/Page", "<init>", "(II)V"⟩ : MethodName)) rfl hown (mvT hZ (hw _ (List.mem_of_getElem? (i := 4) rfl))) (mvT hZ (hw _ (List.mem_of_getElem? (i := 5) rfl))) (mvT hZ (hw _ (List.mem_of_getElem? (i := 6) rfl))) (by decide) (backOf (W := 1) (rmIni l Z a0 hw [] b25 (0 : Int32) (p1 &&& (2147483647 : Int32)) h25 n0 f29 A25 f27 f28 (by decide : ¬ ((0 : Int32) < (0 : Int32))) (own_nn p1) o25) hZ (hw _ (List.mem_of_getElem? (i := 6) rfl)) (hw _ (List.mem_of_getElem? (i := 3) rfl)) (by decide) (by decide)) (g := (mkF m 37 #[.val (.int p0), .val (.int p1), .val (.int (0 : Int32)), .val (.int (p1 &&& (2147483647 : Int32))), .unset, .unset, .unset] [(.int (p1 &&& (2147483647 : Int32))), (.int (0 : Int32)), (.ref b25), (.ref b25)])) rfl (by rw [hml]; rfl) (Steps.refl _) (a := b25) (argsL := [(.int (0 : Int32)), (.int (p1 &&& (2147483647 : Int32)))]) (rest := [(.ref b25)]) (lenOf pd__II_V rfl) rfl (by show 2 * 0 + _ ≤ _; exact Nat.le_of_eq rfl) (hb hby at_37) (fun _ _ => ⟨rfl, e25, (by decide : 1 + 0 ≤ _), (by decide : 2 + 0 ≤ _)⟩)
      dsimp only [Pt.U, Pt.locs, Pt.cells, Pt.slots] at X30 l30 y30 z30 st30 hQ30
      subst l30 y30 z30
      obtain ⟨rfl, N30q, K30, f31, f32⟩ := hQ30
      have KK30 : Keep h0 T30.heap [] := Keep.trans K25 K30 (allS (Or.inr z25) all0)
      have N30 := Fr.app N0 N30q
      have f33 : n0 ≤ T30.heap.size := (Nat.le_trans f29 K30.1)
      have f35 : Exa Z T30.heap b25 "com/example/apq/apq/query/Page" := (A25.keep K30)
      obtain ⟨cq36, kq36, q36a, q36b, q36c⟩ := isOf hZ rfl f35
      obtain ⟨_, _, ⟨T34, L34, k34, n34⟩, -, X34, ⟨Lc34, hQ34, l34, y34, z34⟩, st34⟩ := X30.virtualBack hx (y := (⟨"com/example/apq/apq/query/Page", "whole", "()Z"⟩ : MethodName)) (z := (⟨"com/example/apq/apq/query/Page", "whole", "()Z"⟩ : MethodName)) hown (mvT hZ (hw _ (List.mem_of_getElem? (i := 19) rfl))) (mvT hZ (hw _ (List.mem_of_getElem? (i := 20) rfl))) (notFace_of_selects (args := #[]) (mvT hZ (hw _ (List.mem_of_getElem? (i := 22) rfl)))) (mvT hZ (hw _ (List.mem_of_getElem? (i := 22) rfl))) (mvT hZ (hw _ (List.mem_of_getElem? (i := 21) rfl))) (by decide) (backOf (W := 0) (rmWho l Z a0 hw [] b25 (0 : Int32) (p1 &&& (2147483647 : Int32)) T30.heap n0 f33 f31 f32) hZ (hw _ (List.mem_of_getElem? (i := 23) rfl)) (hw _ (List.mem_of_getElem? (i := 3) rfl)) (by decide) (by decide)) q36a q36c (g := (mkF m 44 #[.val (.int p0), .val (.int p1), .val (.int (0 : Int32)), .val (.int (p1 &&& (2147483647 : Int32))), .val (.ref b25), .unset, .unset] [(.ref b25)])) rfl (by rw [hml]; rfl) (Steps.refl _) (argsL := []) (rest := []) (lenOf pd___Z rfl) rfl (by show 2 * 0 + _ ≤ _; exact Nat.le_of_eq rfl) (hb hby at_44) (fun _ _ => ⟨rfl, rfl, (by decide : 1 + 0 ≤ _), (by decide : 2 + 0 ≤ _)⟩)
      dsimp only [Pt.U, Pt.locs, Pt.cells, Pt.slots] at X34 l34 y34 z34 st34 hQ34
      subst l34 y34 z34
      obtain ⟨rfl, N34q, e34⟩ := hQ34
      have N34 := Fr.app N30 N34q
      have f37 : Sta Z T30.heap "com/example/apq/apq/query/Page" "ALL" "Lcom/example/apq/apq/query/Page;" (.ref wL) := (own_staKeep (P_S_Page_ALL.ext E25) K30 (nsS A25.nostat ns0))
      obtain ⟨T38, X38, e38, st38⟩ := getS2 X34 hx hZ hown (host := "") (Or.inl (hw _ (List.mem_of_getElem? (i := 25) rfl))) Via.refl e34 f37 (g := (mkF m 49 #[.val (.int p0), .val (.int p1), .val (.int (0 : Int32)), .val (.int (p1 &&& (2147483647 : Int32))), .val (.ref b25), .val (.int (own_wh (0 : Int32) (p1 &&& (2147483647 : Int32)))), .unset] [])) rfl (hb hby at_49)
      have f39 : Fld Z T30.heap wL "com/example/apq/apq/query/Page" "first" "I" (.int (0 : Int32)) := ((P_F_wL_Page_first.ext E25).keep K30 (ninS ne26 nin0))
      have f40 : Fld Z T30.heap wL "com/example/apq/apq/query/Page" "max" "I" (.int (2147483647 : Int32)) := ((P_F_wL_Page_max.ext E25).keep K30 (ninS ne26 nin0))
      have f42 : Exa Z T30.heap wL "com/example/apq/apq/query/Page" := ((P_E_wL.ext E25).keep K30)
      obtain ⟨cq43, kq43, q43a, q43b, q43c⟩ := isOf hZ e38 f42
      obtain ⟨_, _, ⟨T41, L41, k41, n41⟩, -, X41, ⟨Lc41, hQ41, l41, y41, z41⟩, st41⟩ := X38.virtualBack hx (y := (⟨"com/example/apq/apq/query/Page", "whole", "()Z"⟩ : MethodName)) (z := (⟨"com/example/apq/apq/query/Page", "whole", "()Z"⟩ : MethodName)) hown (mvT hZ (hw _ (List.mem_of_getElem? (i := 19) rfl))) (mvT hZ (hw _ (List.mem_of_getElem? (i := 20) rfl))) (notFace_of_selects (args := #[]) (mvT hZ (hw _ (List.mem_of_getElem? (i := 22) rfl)))) (mvT hZ (hw _ (List.mem_of_getElem? (i := 22) rfl))) (mvT hZ (hw _ (List.mem_of_getElem? (i := 21) rfl))) (by decide) (backOf (W := 0) (rmWho l Z a0 hw [] wL (0 : Int32) (2147483647 : Int32) T30.heap n0 f33 f39 f40) hZ (hw _ (List.mem_of_getElem? (i := 23) rfl)) (hw _ (List.mem_of_getElem? (i := 3) rfl)) (by decide) (by decide)) q43a q43c (g := (mkF m 52 #[.val (.int p0), .val (.int p1), .val (.int (0 : Int32)), .val (.int (p1 &&& (2147483647 : Int32))), .val (.ref b25), .val (.int (own_wh (0 : Int32) (p1 &&& (2147483647 : Int32)))), .unset] [(.ref wL)])) rfl (by rw [hml]; rfl) (Steps.refl _) (argsL := []) (rest := []) (lenOf pd___Z rfl) rfl (by show 2 * 0 + _ ≤ _; exact Nat.le_of_eq rfl) (hb hby at_52) (fun _ _ => ⟨rfl, e38, (by decide : 1 + 0 ≤ _), (by decide : 2 + 0 ≤ _)⟩)
      dsimp only [Pt.U, Pt.locs, Pt.cells, Pt.slots] at X41 l41 y41 z41 st41 hQ41
      subst l41 y41 z41
      obtain ⟨rfl, N41q, e41⟩ := hQ41
      have N41 := Fr.app N34 N41q
      obtain ⟨_, _, ⟨T44, L44, k44, n44⟩, -, X44, ⟨Lc44, hQ44, l44, y44, z44⟩, st44⟩ := Jvm.LawKit.callS X41 hx (y := (⟨"com/example/apq/apq/query/PageWholePinLaw", "expected", "(II)Z"⟩ : MethodName)) hown (mvT hZ (hw _ (List.mem_of_getElem? (i := 27) rfl))) (mvT hZ (hw _ (List.mem_of_getElem? (i := 28) rfl))) (mvT hZ (hw _ (List.mem_of_getElem? (i := 29) rfl))) (mvT hZ (hw _ (List.mem_of_getElem? (i := 30) rfl))) (by decide) (backOf (W := 1) (rmExp l Z a0 hw [] (0 : Int32) (p1 &&& (2147483647 : Int32)) T30.heap n0 f33 ) hZ (hw _ (List.mem_of_getElem? (i := 30) rfl)) (hw _ (List.mem_of_getElem? (i := 29) rfl)) (by decide) (by decide)) (g := (mkF m 66 #[.val (.int p0), .val (.int p1), .val (.int (0 : Int32)), .val (.int (p1 &&& (2147483647 : Int32))), .val (.ref b25), .val (.int (own_wh (0 : Int32) (p1 &&& (2147483647 : Int32)))), .val (.int (own_wh (0 : Int32) (2147483647 : Int32)))] [(.int (p1 &&& (2147483647 : Int32))), (.int (0 : Int32)), (.int (own_wh (0 : Int32) (p1 &&& (2147483647 : Int32))))])) rfl (by rw [hml]; rfl) (argsL := [(.int (0 : Int32)), (.int (p1 &&& (2147483647 : Int32)))]) (rest := [(.int (own_wh (0 : Int32) (p1 &&& (2147483647 : Int32))))]) (lenOf pd__II_Z rfl) rfl (by show 2 * 0 + _ ≤ _; exact Nat.le_of_eq rfl) (hb hby at_66) (fun _ _ => ⟨rfl, e41, (by decide : 1 + 0 ≤ _), (by decide : 2 + 0 ≤ _)⟩)
      dsimp only [Pt.U, Pt.locs, Pt.cells, Pt.slots] at X44 l44 y44 z44 st44 hQ44
      subst l44 y44 z44
      obtain ⟨rfl, N44q, e44⟩ := hQ44
      have N44 := Fr.app N41 N44q
      obtain ⟨fs, hr, hrun, hended, hW, hsame⟩ := X44.leave (v := some (.int (1 : Int32))) (fun h => by rw [Bd.returns] at h; cases h)
      refine ⟨_, _, pre4 _ ?_, hrun, hended, _, _, rfl, ?_, ⟨_, rfl⟩, hW, hsame.mono (by decide) (by decide)⟩
      · show Steps p.tables e below (s₁.setTop (mkF m 18 #[.val (.int p0), .val (.int p1), .val (.int (0 : Int32)), .unset, .unset, .unset, .unset] [(.int (p1 &&& (1 : Int32)))])) _
        refine XS.ifYes X0.here hx rfl (pc0 := 18) (pc' := 26) rfl (hb hby at_18) rfl ((if0 _ _).trans (feq hc18_3).2) (by decide) (by decide) ?_
        show Steps p.tables e below (s₁.setTop (mkF m 26 #[.val (.int p0), .val (.int p1), .val (.int (0 : Int32)), .unset, .unset, .unset, .unset] [])) _
        refine XS.iloadN X0.here hx rfl (hb hby at_26) rfl ?_
        show Steps p.tables e below (s₁.setTop (mkF m 27 #[.val (.int p0), .val (.int p1), .val (.int (0 : Int32)), .unset, .unset, .unset, .unset] [(.int p1)])) _
        refine X0.ldcInt hx hown (mvT hZ (hw _ (List.mem_of_getElem? (i := 0) rfl))) (g := (mkF m 27 #[.val (.int p0), .val (.int p1), .val (.int (0 : Int32)), .unset, .unset, .unset, .unset] [(.int p1)])) rfl (hb hby at_27) _ ?_
        show Steps p.tables e below (s₁.setTop (mkF m 29 #[.val (.int p0), .val (.int p1), .val (.int (0 : Int32)), .unset, .unset, .unset, .unset] [(.int (2147483647 : Int32)), (.int p1)])) _
        refine XS.iand X0.here hx rfl (hb hby at_29) rfl ?_
        show Steps p.tables e below (s₁.setTop (mkF m 30 #[.val (.int p0), .val (.int p1), .val (.int (0 : Int32)), .unset, .unset, .unset, .unset] [(.int (p1 &&& (2147483647 : Int32)))])) _
        refine XS.istoreN X0.here hx rfl (hb hby at_30) rfl (l' := #[.val (.int p0), .val (.int p1), .val (.int (0 : Int32)), .val (.int (p1 &&& (2147483647 : Int32))), .unset, .unset, .unset]) rfl ?_
        show Steps p.tables e below (s₁.setTop (mkF m 31 #[.val (.int p0), .val (.int p1), .val (.int (0 : Int32)), .val (.int (p1 &&& (2147483647 : Int32))), .unset, .unset, .unset] [])) _
        refine st25 _ ?_
        show Steps p.tables e below (T25.setTop (mkF m 34 #[.val (.int p0), .val (.int p1), .val (.int (0 : Int32)), .val (.int (p1 &&& (2147483647 : Int32))), .unset, .unset, .unset] [(.ref b25)])) _
        refine XS.dup X25.here hx rfl (hb hby at_34) rfl rfl ?_
        show Steps p.tables e below (T25.setTop (mkF m 35 #[.val (.int p0), .val (.int p1), .val (.int (0 : Int32)), .val (.int (p1 &&& (2147483647 : Int32))), .unset, .unset, .unset] [(.ref b25), (.ref b25)])) _
        refine XS.iloadN X25.here hx rfl (hb hby at_35) rfl ?_
        show Steps p.tables e below (T25.setTop (mkF m 36 #[.val (.int p0), .val (.int p1), .val (.int (0 : Int32)), .val (.int (p1 &&& (2147483647 : Int32))), .unset, .unset, .unset] [(.int (0 : Int32)), (.ref b25), (.ref b25)])) _
        refine XS.iloadN X25.here hx rfl (hb hby at_36) rfl ?_
        show Steps p.tables e below (T25.setTop (mkF m 37 #[.val (.int p0), .val (.int p1), .val (.int (0 : Int32)), .val (.int (p1 &&& (2147483647 : Int32))), .unset, .unset, .unset] [(.int (p1 &&& (2147483647 : Int32))), (.int (0 : Int32)), (.ref b25), (.ref b25)])) _
        refine st30.trans ?_
        show Steps p.tables e below (T30.setTop (mkF m 40 #[.val (.int p0), .val (.int p1), .val (.int (0 : Int32)), .val (.int (p1 &&& (2147483647 : Int32))), .unset, .unset, .unset] [(.ref b25)])) _
        refine XS.astore X30.here hx rfl (hb hby at_40) rfl rfl (l' := #[.val (.int p0), .val (.int p1), .val (.int (0 : Int32)), .val (.int (p1 &&& (2147483647 : Int32))), .val (.ref b25), .unset, .unset]) rfl ?_
        show Steps p.tables e below (T30.setTop (mkF m 42 #[.val (.int p0), .val (.int p1), .val (.int (0 : Int32)), .val (.int (p1 &&& (2147483647 : Int32))), .val (.ref b25), .unset, .unset] [])) _
        refine XS.aload X30.here hx rfl (hb hby at_42) rfl rfl ?_
        show Steps p.tables e below (T30.setTop (mkF m 44 #[.val (.int p0), .val (.int p1), .val (.int (0 : Int32)), .val (.int (p1 &&& (2147483647 : Int32))), .val (.ref b25), .unset, .unset] [(.ref b25)])) _
        refine st34.trans ?_
        show Steps p.tables e below (T34.setTop (mkF m 47 #[.val (.int p0), .val (.int p1), .val (.int (0 : Int32)), .val (.int (p1 &&& (2147483647 : Int32))), .val (.ref b25), .unset, .unset] [(.int (own_wh (0 : Int32) (p1 &&& (2147483647 : Int32))))])) _
        refine XS.istore X34.here hx rfl (hb hby at_47) rfl (l' := #[.val (.int p0), .val (.int p1), .val (.int (0 : Int32)), .val (.int (p1 &&& (2147483647 : Int32))), .val (.ref b25), .val (.int (own_wh (0 : Int32) (p1 &&& (2147483647 : Int32)))), .unset]) rfl ?_
        show Steps p.tables e below (T34.setTop (mkF m 49 #[.val (.int p0), .val (.int p1), .val (.int (0 : Int32)), .val (.int (p1 &&& (2147483647 : Int32))), .val (.ref b25), .val (.int (own_wh (0 : Int32) (p1 &&& (2147483647 : Int32)))), .unset] [])) _
        refine st38 _ ?_
        show Steps p.tables e below (T38.setTop (mkF m 52 #[.val (.int p0), .val (.int p1), .val (.int (0 : Int32)), .val (.int (p1 &&& (2147483647 : Int32))), .val (.ref b25), .val (.int (own_wh (0 : Int32) (p1 &&& (2147483647 : Int32)))), .unset] [(.ref wL)])) _
        refine st41.trans ?_
        show Steps p.tables e below (T41.setTop (mkF m 55 #[.val (.int p0), .val (.int p1), .val (.int (0 : Int32)), .val (.int (p1 &&& (2147483647 : Int32))), .val (.ref b25), .val (.int (own_wh (0 : Int32) (p1 &&& (2147483647 : Int32)))), .unset] [(.int (own_wh (0 : Int32) (2147483647 : Int32)))])) _
        refine XS.istore X41.here hx rfl (hb hby at_55) rfl (l' := #[.val (.int p0), .val (.int p1), .val (.int (0 : Int32)), .val (.int (p1 &&& (2147483647 : Int32))), .val (.ref b25), .val (.int (own_wh (0 : Int32) (p1 &&& (2147483647 : Int32)))), .val (.int (own_wh (0 : Int32) (2147483647 : Int32)))]) rfl ?_
        show Steps p.tables e below (T41.setTop (mkF m 57 #[.val (.int p0), .val (.int p1), .val (.int (0 : Int32)), .val (.int (p1 &&& (2147483647 : Int32))), .val (.ref b25), .val (.int (own_wh (0 : Int32) (p1 &&& (2147483647 : Int32)))), .val (.int (own_wh (0 : Int32) (2147483647 : Int32)))] [])) _
        refine XS.iload X41.here hx rfl (hb hby at_57) rfl ?_
        show Steps p.tables e below (T41.setTop (mkF m 59 #[.val (.int p0), .val (.int p1), .val (.int (0 : Int32)), .val (.int (p1 &&& (2147483647 : Int32))), .val (.ref b25), .val (.int (own_wh (0 : Int32) (p1 &&& (2147483647 : Int32)))), .val (.int (own_wh (0 : Int32) (2147483647 : Int32)))] [(.int (own_wh (0 : Int32) (2147483647 : Int32)))])) _
        refine XS.ifNo X41.here hx rfl (hb hby at_59) rfl ((if0 _ _).trans (feq (by decide : ¬ ((own_wh (0 : Int32) (2147483647 : Int32)) = (0 : Int32)))).1) ?_
        show Steps p.tables e below (T41.setTop (mkF m 62 #[.val (.int p0), .val (.int p1), .val (.int (0 : Int32)), .val (.int (p1 &&& (2147483647 : Int32))), .val (.ref b25), .val (.int (own_wh (0 : Int32) (p1 &&& (2147483647 : Int32)))), .val (.int (own_wh (0 : Int32) (2147483647 : Int32)))] [])) _
        refine XS.iload X41.here hx rfl (hb hby at_62) rfl ?_
        show Steps p.tables e below (T41.setTop (mkF m 64 #[.val (.int p0), .val (.int p1), .val (.int (0 : Int32)), .val (.int (p1 &&& (2147483647 : Int32))), .val (.ref b25), .val (.int (own_wh (0 : Int32) (p1 &&& (2147483647 : Int32)))), .val (.int (own_wh (0 : Int32) (2147483647 : Int32)))] [(.int (own_wh (0 : Int32) (p1 &&& (2147483647 : Int32))))])) _
        refine XS.iloadN X41.here hx rfl (hb hby at_64) rfl ?_
        show Steps p.tables e below (T41.setTop (mkF m 65 #[.val (.int p0), .val (.int p1), .val (.int (0 : Int32)), .val (.int (p1 &&& (2147483647 : Int32))), .val (.ref b25), .val (.int (own_wh (0 : Int32) (p1 &&& (2147483647 : Int32)))), .val (.int (own_wh (0 : Int32) (2147483647 : Int32)))] [(.int (0 : Int32)), (.int (own_wh (0 : Int32) (p1 &&& (2147483647 : Int32))))])) _
        refine XS.iloadN X41.here hx rfl (hb hby at_65) rfl ?_
        show Steps p.tables e below (T41.setTop (mkF m 66 #[.val (.int p0), .val (.int p1), .val (.int (0 : Int32)), .val (.int (p1 &&& (2147483647 : Int32))), .val (.ref b25), .val (.int (own_wh (0 : Int32) (p1 &&& (2147483647 : Int32)))), .val (.int (own_wh (0 : Int32) (2147483647 : Int32)))] [(.int (p1 &&& (2147483647 : Int32))), (.int (0 : Int32)), (.int (own_wh (0 : Int32) (p1 &&& (2147483647 : Int32))))])) _
        refine st44 _ ?_
        show Steps p.tables e below (T44.setTop (mkF m 69 #[.val (.int p0), .val (.int p1), .val (.int (0 : Int32)), .val (.int (p1 &&& (2147483647 : Int32))), .val (.ref b25), .val (.int (own_wh (0 : Int32) (p1 &&& (2147483647 : Int32)))), .val (.int (own_wh (0 : Int32) (2147483647 : Int32)))] [(.int (own_wh (0 : Int32) (p1 &&& (2147483647 : Int32)))), (.int (own_wh (0 : Int32) (p1 &&& (2147483647 : Int32))))])) _
        refine XS.icmpNo X44.here hx rfl (hb hby at_69) rfl (teq (rfl : (own_wh (0 : Int32) (p1 &&& (2147483647 : Int32))) = (own_wh (0 : Int32) (p1 &&& (2147483647 : Int32))))).2 ?_
        show Steps p.tables e below (T44.setTop (mkF m 72 #[.val (.int p0), .val (.int p1), .val (.int (0 : Int32)), .val (.int (p1 &&& (2147483647 : Int32))), .val (.ref b25), .val (.int (own_wh (0 : Int32) (p1 &&& (2147483647 : Int32)))), .val (.int (own_wh (0 : Int32) (2147483647 : Int32)))] [])) _
        refine XS.iconst X44.here hx rfl (hb hby at_72) ?_
        show Steps p.tables e below (T44.setTop (mkF m 73 #[.val (.int p0), .val (.int p1), .val (.int (0 : Int32)), .val (.int (p1 &&& (2147483647 : Int32))), .val (.ref b25), .val (.int (own_wh (0 : Int32) (p1 &&& (2147483647 : Int32)))), .val (.int (own_wh (0 : Int32) (2147483647 : Int32)))] [(.int (1 : Int32))])) _
        refine XS.goto X44.here hx rfl (pc0 := 73) (pc' := 77) rfl (hb hby at_73) (by decide) (by decide) ?_
        show Steps p.tables e below (T44.setTop (mkF m 77 #[.val (.int p0), .val (.int p1), .val (.int (0 : Int32)), .val (.int (p1 &&& (2147483647 : Int32))), .val (.ref b25), .val (.int (own_wh (0 : Int32) (p1 &&& (2147483647 : Int32)))), .val (.int (own_wh (0 : Int32) (2147483647 : Int32)))] [(.int (1 : Int32))])) _
        exact retN X44 hx (t := .boolean) Bd.returns (by simp) (hb hby at_77) hr
      · show own_Q0 n0 _ T44.heap _
        rw [e44]
        exact ⟨rfl, N44⟩
  · have pre46 : ∀ t, Steps p.tables e below (s₁.setTop (mkF m 18 #[.val (.int p0), .val (.int p1), .val (.int (p0 &&& (2147483647 : Int32))), .unset, .unset, .unset, .unset] [(.int (p1 &&& (1 : Int32)))])) t → Steps p.tables e below (s₁.setTop (entryFrame m #[(.int p0), (.int p1)] maxLocals)) t := fun t kt => pre2 t (by
        show Steps p.tables e below (s₁.setTop (mkF m 3 #[.val (.int p0), .val (.int p1), .unset, .unset, .unset, .unset, .unset] [(.int (p0 &&& (1 : Int32)))])) _
        refine XS.ifYes X0.here hx rfl (pc0 := 3) (pc' := 10) rfl (hb hby at_3) rfl ((if0 _ _).trans (feq hc3_1).2) (by decide) (by decide) ?_
        show Steps p.tables e below (s₁.setTop (mkF m 10 #[.val (.int p0), .val (.int p1), .unset, .unset, .unset, .unset, .unset] [])) _
        refine XS.iloadN X0.here hx rfl (hb hby at_10) rfl ?_
        show Steps p.tables e below (s₁.setTop (mkF m 11 #[.val (.int p0), .val (.int p1), .unset, .unset, .unset, .unset, .unset] [(.int p0)])) _
        refine X0.ldcInt hx hown (mvT hZ (hw _ (List.mem_of_getElem? (i := 0) rfl))) (g := (mkF m 11 #[.val (.int p0), .val (.int p1), .unset, .unset, .unset, .unset, .unset] [(.int p0)])) rfl (hb hby at_11) _ ?_
        show Steps p.tables e below (s₁.setTop (mkF m 13 #[.val (.int p0), .val (.int p1), .unset, .unset, .unset, .unset, .unset] [(.int (2147483647 : Int32)), (.int p0)])) _
        refine XS.iand X0.here hx rfl (hb hby at_13) rfl ?_
        show Steps p.tables e below (s₁.setTop (mkF m 14 #[.val (.int p0), .val (.int p1), .unset, .unset, .unset, .unset, .unset] [(.int (p0 &&& (2147483647 : Int32)))])) _
        refine XS.istoreN X0.here hx rfl (hb hby at_14) rfl (l' := #[.val (.int p0), .val (.int p1), .val (.int (p0 &&& (2147483647 : Int32))), .unset, .unset, .unset, .unset]) rfl ?_
        show Steps p.tables e below (s₁.setTop (mkF m 15 #[.val (.int p0), .val (.int p1), .val (.int (p0 &&& (2147483647 : Int32))), .unset, .unset, .unset, .unset] [])) _
        refine XS.iloadN X0.here hx rfl (hb hby at_15) rfl ?_
        show Steps p.tables e below (s₁.setTop (mkF m 16 #[.val (.int p0), .val (.int p1), .val (.int (p0 &&& (2147483647 : Int32))), .unset, .unset, .unset, .unset] [(.int p1)])) _
        refine XS.iconst X0.here hx rfl (hb hby at_16) ?_
        show Steps p.tables e below (s₁.setTop (mkF m 17 #[.val (.int p0), .val (.int p1), .val (.int (p0 &&& (2147483647 : Int32))), .unset, .unset, .unset, .unset] [(.int (1 : Int32)), (.int p1)])) _
        refine XS.iand X0.here hx rfl (hb hby at_17) rfl ?_
        exact kt)
    by_cases hc18_45 : (p1 &&& (1 : Int32)) = (0 : Int32)
    · obtain ⟨T47, h47, X47, e47, E47, A47, D47, U47, st47⟩ := newO X0 hx hZ hown (hw _ (List.mem_of_getElem? (i := 1) rfl)) (hw _ (List.mem_of_getElem? (i := 2) rfl)) (hw _ (List.mem_of_getElem? (i := 3) rfl)) e0 (g := (mkF m 31 #[.val (.int p0), .val (.int p1), .val (.int (p0 &&& (2147483647 : Int32))), .val (.int (2147483647 : Int32)), .unset, .unset, .unset] [])) rfl (hb hby at_31) (by decide) (by decide)
      obtain ⟨b47, g47⟩ : ∃ z, z = h0.size := ⟨_, rfl⟩
      rw [← g47] at A47 D47 U47 st47
      have ne48 : wL ≠ b47 := Nat.ne_of_lt (Nat.lt_of_lt_of_le P_E_wL.lt (Nat.le_of_eq g47.symm))
      have o47 : n0 ≤ b47 := Nat.le_trans Z0 (Nat.le_of_eq g47.symm)
      have z47 : h0.size ≤ b47 := Nat.le_trans (Keep.refl h0 []).1 (Nat.le_of_eq g47.symm)
      have K47 : Keep h0 h47 [] := (Keep.refl h0 []).ext E47
      have f49 : Fld Z h47 b47 "com/example/apq/apq/query/Page" "first" "I" (.int (0 : Int32)) := D47 (Or.inr (hw _ (List.mem_of_getElem? (i := 16) rfl))) (ty := .int) (by decide)
      have f50 : Fld Z h47 b47 "com/example/apq/apq/query/Page" "max" "I" (.int (0 : Int32)) := D47 (Or.inr (hw _ (List.mem_of_getElem? (i := 18) rfl))) (ty := .int) (by decide)
      have f51 : n0 ≤ h47.size := (Nat.le_trans Z0 E47.1)
      obtain ⟨_, _, ⟨T52, L52, k52, n52⟩, -, X52, ⟨Lc52, hQ52, l52, y52, z52⟩, st52⟩ := X47.specialBack hx (y := (⟨"com/example/apq/apq/query/Page", "<init>", "(II)V"⟩ : MethodName)) rfl hown (mvT hZ (hw _ (List.mem_of_getElem? (i := 4) rfl))) (mvT hZ (hw _ (List.mem_of_getElem? (i := 5) rfl))) (mvT hZ (hw _ (List.mem_of_getElem? (i := 6) rfl))) (by decide) (backOf (W := 1) (rmIni l Z a0 hw [] b47 (p0 &&& (2147483647 : Int32)) (2147483647 : Int32) h47 n0 f51 A47 f49 f50 (own_nn p0) (by decide : ¬ ((2147483647 : Int32) < (0 : Int32))) o47) hZ (hw _ (List.mem_of_getElem? (i := 6) rfl)) (hw _ (List.mem_of_getElem? (i := 3) rfl)) (by decide) (by decide)) (g := (mkF m 37 #[.val (.int p0), .val (.int p1), .val (.int (p0 &&& (2147483647 : Int32))), .val (.int (2147483647 : Int32)), .unset, .unset, .unset] [(.int (2147483647 : Int32)), (.int (p0 &&& (2147483647 : Int32))), (.ref b47), (.ref b47)])) rfl (by rw [hml]; rfl) (Steps.refl _) (a := b47) (argsL := [(.int (p0 &&& (2147483647 : Int32))), (.int (2147483647 : Int32))]) (rest := [(.ref b47)]) (lenOf pd__II_V rfl) rfl (by show 2 * 0 + _ ≤ _; exact Nat.le_of_eq rfl) (hb hby at_37) (fun _ _ => ⟨rfl, e47, (by decide : 1 + 0 ≤ _), (by decide : 2 + 0 ≤ _)⟩)
      dsimp only [Pt.U, Pt.locs, Pt.cells, Pt.slots] at X52 l52 y52 z52 st52 hQ52
      subst l52 y52 z52
      obtain ⟨rfl, N52q, K52, f53, f54⟩ := hQ52
      have KK52 : Keep h0 T52.heap [] := Keep.trans K47 K52 (allS (Or.inr z47) all0)
      have N52 := Fr.app N0 N52q
      have f55 : n0 ≤ T52.heap.size := (Nat.le_trans f51 K52.1)
      have f57 : Exa Z T52.heap b47 "com/example/apq/apq/query/Page" := (A47.keep K52)
      obtain ⟨cq58, kq58, q58a, q58b, q58c⟩ := isOf hZ rfl f57
      obtain ⟨_, _, ⟨T56, L56, k56, n56⟩, -, X56, ⟨Lc56, hQ56, l56, y56, z56⟩, st56⟩ := X52.virtualBack hx (y := (⟨"com/example/apq/apq/query/Page", "whole", "()Z"⟩ : MethodName)) (z := (⟨"com/example/apq/apq/query/Page", "whole", "()Z"⟩ : MethodName)) hown (mvT hZ (hw _ (List.mem_of_getElem? (i := 19) rfl))) (mvT hZ (hw _ (List.mem_of_getElem? (i := 20) rfl))) (notFace_of_selects (args := #[]) (mvT hZ (hw _ (List.mem_of_getElem? (i := 22) rfl)))) (mvT hZ (hw _ (List.mem_of_getElem? (i := 22) rfl))) (mvT hZ (hw _ (List.mem_of_getElem? (i := 21) rfl))) (by decide) (backOf (W := 0) (rmWho l Z a0 hw [] b47 (p0 &&& (2147483647 : Int32)) (2147483647 : Int32) T52.heap n0 f55 f53 f54) hZ (hw _ (List.mem_of_getElem? (i := 23) rfl)) (hw _ (List.mem_of_getElem? (i := 3) rfl)) (by decide) (by decide)) q58a q58c (g := (mkF m 44 #[.val (.int p0), .val (.int p1), .val (.int (p0 &&& (2147483647 : Int32))), .val (.int (2147483647 : Int32)), .val (.ref b47), .unset, .unset] [(.ref b47)])) rfl (by rw [hml]; rfl) (Steps.refl _) (argsL := []) (rest := []) (lenOf pd___Z rfl) rfl (by show 2 * 0 + _ ≤ _; exact Nat.le_of_eq rfl) (hb hby at_44) (fun _ _ => ⟨rfl, rfl, (by decide : 1 + 0 ≤ _), (by decide : 2 + 0 ≤ _)⟩)
      dsimp only [Pt.U, Pt.locs, Pt.cells, Pt.slots] at X56 l56 y56 z56 st56 hQ56
      subst l56 y56 z56
      obtain ⟨rfl, N56q, e56⟩ := hQ56
      have N56 := Fr.app N52 N56q
      have f59 : Sta Z T52.heap "com/example/apq/apq/query/Page" "ALL" "Lcom/example/apq/apq/query/Page;" (.ref wL) := (own_staKeep (P_S_Page_ALL.ext E47) K52 (nsS A47.nostat ns0))
      obtain ⟨T60, X60, e60, st60⟩ := getS2 X56 hx hZ hown (host := "") (Or.inl (hw _ (List.mem_of_getElem? (i := 25) rfl))) Via.refl e56 f59 (g := (mkF m 49 #[.val (.int p0), .val (.int p1), .val (.int (p0 &&& (2147483647 : Int32))), .val (.int (2147483647 : Int32)), .val (.ref b47), .val (.int (own_wh (p0 &&& (2147483647 : Int32)) (2147483647 : Int32))), .unset] [])) rfl (hb hby at_49)
      have f61 : Fld Z T52.heap wL "com/example/apq/apq/query/Page" "first" "I" (.int (0 : Int32)) := ((P_F_wL_Page_first.ext E47).keep K52 (ninS ne48 nin0))
      have f62 : Fld Z T52.heap wL "com/example/apq/apq/query/Page" "max" "I" (.int (2147483647 : Int32)) := ((P_F_wL_Page_max.ext E47).keep K52 (ninS ne48 nin0))
      have f64 : Exa Z T52.heap wL "com/example/apq/apq/query/Page" := ((P_E_wL.ext E47).keep K52)
      obtain ⟨cq65, kq65, q65a, q65b, q65c⟩ := isOf hZ e60 f64
      obtain ⟨_, _, ⟨T63, L63, k63, n63⟩, -, X63, ⟨Lc63, hQ63, l63, y63, z63⟩, st63⟩ := X60.virtualBack hx (y := (⟨"com/example/apq/apq/query/Page", "whole", "()Z"⟩ : MethodName)) (z := (⟨"com/example/apq/apq/query/Page", "whole", "()Z"⟩ : MethodName)) hown (mvT hZ (hw _ (List.mem_of_getElem? (i := 19) rfl))) (mvT hZ (hw _ (List.mem_of_getElem? (i := 20) rfl))) (notFace_of_selects (args := #[]) (mvT hZ (hw _ (List.mem_of_getElem? (i := 22) rfl)))) (mvT hZ (hw _ (List.mem_of_getElem? (i := 22) rfl))) (mvT hZ (hw _ (List.mem_of_getElem? (i := 21) rfl))) (by decide) (backOf (W := 0) (rmWho l Z a0 hw [] wL (0 : Int32) (2147483647 : Int32) T52.heap n0 f55 f61 f62) hZ (hw _ (List.mem_of_getElem? (i := 23) rfl)) (hw _ (List.mem_of_getElem? (i := 3) rfl)) (by decide) (by decide)) q65a q65c (g := (mkF m 52 #[.val (.int p0), .val (.int p1), .val (.int (p0 &&& (2147483647 : Int32))), .val (.int (2147483647 : Int32)), .val (.ref b47), .val (.int (own_wh (p0 &&& (2147483647 : Int32)) (2147483647 : Int32))), .unset] [(.ref wL)])) rfl (by rw [hml]; rfl) (Steps.refl _) (argsL := []) (rest := []) (lenOf pd___Z rfl) rfl (by show 2 * 0 + _ ≤ _; exact Nat.le_of_eq rfl) (hb hby at_52) (fun _ _ => ⟨rfl, e60, (by decide : 1 + 0 ≤ _), (by decide : 2 + 0 ≤ _)⟩)
      dsimp only [Pt.U, Pt.locs, Pt.cells, Pt.slots] at X63 l63 y63 z63 st63 hQ63
      subst l63 y63 z63
      obtain ⟨rfl, N63q, e63⟩ := hQ63
      have N63 := Fr.app N56 N63q
      obtain ⟨_, _, ⟨T66, L66, k66, n66⟩, -, X66, ⟨Lc66, hQ66, l66, y66, z66⟩, st66⟩ := Jvm.LawKit.callS X63 hx (y := (⟨"com/example/apq/apq/query/PageWholePinLaw", "expected", "(II)Z"⟩ : MethodName)) hown (mvT hZ (hw _ (List.mem_of_getElem? (i := 27) rfl))) (mvT hZ (hw _ (List.mem_of_getElem? (i := 28) rfl))) (mvT hZ (hw _ (List.mem_of_getElem? (i := 29) rfl))) (mvT hZ (hw _ (List.mem_of_getElem? (i := 30) rfl))) (by decide) (backOf (W := 1) (rmExp l Z a0 hw [] (p0 &&& (2147483647 : Int32)) (2147483647 : Int32) T52.heap n0 f55 ) hZ (hw _ (List.mem_of_getElem? (i := 30) rfl)) (hw _ (List.mem_of_getElem? (i := 29) rfl)) (by decide) (by decide)) (g := (mkF m 66 #[.val (.int p0), .val (.int p1), .val (.int (p0 &&& (2147483647 : Int32))), .val (.int (2147483647 : Int32)), .val (.ref b47), .val (.int (own_wh (p0 &&& (2147483647 : Int32)) (2147483647 : Int32))), .val (.int (own_wh (0 : Int32) (2147483647 : Int32)))] [(.int (2147483647 : Int32)), (.int (p0 &&& (2147483647 : Int32))), (.int (own_wh (p0 &&& (2147483647 : Int32)) (2147483647 : Int32)))])) rfl (by rw [hml]; rfl) (argsL := [(.int (p0 &&& (2147483647 : Int32))), (.int (2147483647 : Int32))]) (rest := [(.int (own_wh (p0 &&& (2147483647 : Int32)) (2147483647 : Int32)))]) (lenOf pd__II_Z rfl) rfl (by show 2 * 0 + _ ≤ _; exact Nat.le_of_eq rfl) (hb hby at_66) (fun _ _ => ⟨rfl, e63, (by decide : 1 + 0 ≤ _), (by decide : 2 + 0 ≤ _)⟩)
      dsimp only [Pt.U, Pt.locs, Pt.cells, Pt.slots] at X66 l66 y66 z66 st66 hQ66
      subst l66 y66 z66
      obtain ⟨rfl, N66q, e66⟩ := hQ66
      have N66 := Fr.app N63 N66q
      obtain ⟨fs, hr, hrun, hended, hW, hsame⟩ := X66.leave (v := some (.int (1 : Int32))) (fun h => by rw [Bd.returns] at h; cases h)
      refine ⟨_, _, pre46 _ ?_, hrun, hended, _, _, rfl, ?_, ⟨_, rfl⟩, hW, hsame.mono (by decide) (by decide)⟩
      · show Steps p.tables e below (s₁.setTop (mkF m 18 #[.val (.int p0), .val (.int p1), .val (.int (p0 &&& (2147483647 : Int32))), .unset, .unset, .unset, .unset] [(.int (p1 &&& (1 : Int32)))])) _
        refine XS.ifNo X0.here hx rfl (hb hby at_18) rfl ((if0 _ _).trans (teq hc18_45).2) ?_
        show Steps p.tables e below (s₁.setTop (mkF m 21 #[.val (.int p0), .val (.int p1), .val (.int (p0 &&& (2147483647 : Int32))), .unset, .unset, .unset, .unset] [])) _
        refine X0.ldcInt hx hown (mvT hZ (hw _ (List.mem_of_getElem? (i := 0) rfl))) (g := (mkF m 21 #[.val (.int p0), .val (.int p1), .val (.int (p0 &&& (2147483647 : Int32))), .unset, .unset, .unset, .unset] [])) rfl (hb hby at_21) _ ?_
        show Steps p.tables e below (s₁.setTop (mkF m 23 #[.val (.int p0), .val (.int p1), .val (.int (p0 &&& (2147483647 : Int32))), .unset, .unset, .unset, .unset] [(.int (2147483647 : Int32))])) _
        refine XS.goto X0.here hx rfl (pc0 := 23) (pc' := 30) rfl (hb hby at_23) (by decide) (by decide) ?_
        show Steps p.tables e below (s₁.setTop (mkF m 30 #[.val (.int p0), .val (.int p1), .val (.int (p0 &&& (2147483647 : Int32))), .unset, .unset, .unset, .unset] [(.int (2147483647 : Int32))])) _
        refine XS.istoreN X0.here hx rfl (hb hby at_30) rfl (l' := #[.val (.int p0), .val (.int p1), .val (.int (p0 &&& (2147483647 : Int32))), .val (.int (2147483647 : Int32)), .unset, .unset, .unset]) rfl ?_
        show Steps p.tables e below (s₁.setTop (mkF m 31 #[.val (.int p0), .val (.int p1), .val (.int (p0 &&& (2147483647 : Int32))), .val (.int (2147483647 : Int32)), .unset, .unset, .unset] [])) _
        refine st47 _ ?_
        show Steps p.tables e below (T47.setTop (mkF m 34 #[.val (.int p0), .val (.int p1), .val (.int (p0 &&& (2147483647 : Int32))), .val (.int (2147483647 : Int32)), .unset, .unset, .unset] [(.ref b47)])) _
        refine XS.dup X47.here hx rfl (hb hby at_34) rfl rfl ?_
        show Steps p.tables e below (T47.setTop (mkF m 35 #[.val (.int p0), .val (.int p1), .val (.int (p0 &&& (2147483647 : Int32))), .val (.int (2147483647 : Int32)), .unset, .unset, .unset] [(.ref b47), (.ref b47)])) _
        refine XS.iloadN X47.here hx rfl (hb hby at_35) rfl ?_
        show Steps p.tables e below (T47.setTop (mkF m 36 #[.val (.int p0), .val (.int p1), .val (.int (p0 &&& (2147483647 : Int32))), .val (.int (2147483647 : Int32)), .unset, .unset, .unset] [(.int (p0 &&& (2147483647 : Int32))), (.ref b47), (.ref b47)])) _
        refine XS.iloadN X47.here hx rfl (hb hby at_36) rfl ?_
        show Steps p.tables e below (T47.setTop (mkF m 37 #[.val (.int p0), .val (.int p1), .val (.int (p0 &&& (2147483647 : Int32))), .val (.int (2147483647 : Int32)), .unset, .unset, .unset] [(.int (2147483647 : Int32)), (.int (p0 &&& (2147483647 : Int32))), (.ref b47), (.ref b47)])) _
        refine st52.trans ?_
        show Steps p.tables e below (T52.setTop (mkF m 40 #[.val (.int p0), .val (.int p1), .val (.int (p0 &&& (2147483647 : Int32))), .val (.int (2147483647 : Int32)), .unset, .unset, .unset] [(.ref b47)])) _
        refine XS.astore X52.here hx rfl (hb hby at_40) rfl rfl (l' := #[.val (.int p0), .val (.int p1), .val (.int (p0 &&& (2147483647 : Int32))), .val (.int (2147483647 : Int32)), .val (.ref b47), .unset, .unset]) rfl ?_
        show Steps p.tables e below (T52.setTop (mkF m 42 #[.val (.int p0), .val (.int p1), .val (.int (p0 &&& (2147483647 : Int32))), .val (.int (2147483647 : Int32)), .val (.ref b47), .unset, .unset] [])) _
        refine XS.aload X52.here hx rfl (hb hby at_42) rfl rfl ?_
        show Steps p.tables e below (T52.setTop (mkF m 44 #[.val (.int p0), .val (.int p1), .val (.int (p0 &&& (2147483647 : Int32))), .val (.int (2147483647 : Int32)), .val (.ref b47), .unset, .unset] [(.ref b47)])) _
        refine st56.trans ?_
        show Steps p.tables e below (T56.setTop (mkF m 47 #[.val (.int p0), .val (.int p1), .val (.int (p0 &&& (2147483647 : Int32))), .val (.int (2147483647 : Int32)), .val (.ref b47), .unset, .unset] [(.int (own_wh (p0 &&& (2147483647 : Int32)) (2147483647 : Int32)))])) _
        refine XS.istore X56.here hx rfl (hb hby at_47) rfl (l' := #[.val (.int p0), .val (.int p1), .val (.int (p0 &&& (2147483647 : Int32))), .val (.int (2147483647 : Int32)), .val (.ref b47), .val (.int (own_wh (p0 &&& (2147483647 : Int32)) (2147483647 : Int32))), .unset]) rfl ?_
        show Steps p.tables e below (T56.setTop (mkF m 49 #[.val (.int p0), .val (.int p1), .val (.int (p0 &&& (2147483647 : Int32))), .val (.int (2147483647 : Int32)), .val (.ref b47), .val (.int (own_wh (p0 &&& (2147483647 : Int32)) (2147483647 : Int32))), .unset] [])) _
        refine st60 _ ?_
        show Steps p.tables e below (T60.setTop (mkF m 52 #[.val (.int p0), .val (.int p1), .val (.int (p0 &&& (2147483647 : Int32))), .val (.int (2147483647 : Int32)), .val (.ref b47), .val (.int (own_wh (p0 &&& (2147483647 : Int32)) (2147483647 : Int32))), .unset] [(.ref wL)])) _
        refine st63.trans ?_
        show Steps p.tables e below (T63.setTop (mkF m 55 #[.val (.int p0), .val (.int p1), .val (.int (p0 &&& (2147483647 : Int32))), .val (.int (2147483647 : Int32)), .val (.ref b47), .val (.int (own_wh (p0 &&& (2147483647 : Int32)) (2147483647 : Int32))), .unset] [(.int (own_wh (0 : Int32) (2147483647 : Int32)))])) _
        refine XS.istore X63.here hx rfl (hb hby at_55) rfl (l' := #[.val (.int p0), .val (.int p1), .val (.int (p0 &&& (2147483647 : Int32))), .val (.int (2147483647 : Int32)), .val (.ref b47), .val (.int (own_wh (p0 &&& (2147483647 : Int32)) (2147483647 : Int32))), .val (.int (own_wh (0 : Int32) (2147483647 : Int32)))]) rfl ?_
        show Steps p.tables e below (T63.setTop (mkF m 57 #[.val (.int p0), .val (.int p1), .val (.int (p0 &&& (2147483647 : Int32))), .val (.int (2147483647 : Int32)), .val (.ref b47), .val (.int (own_wh (p0 &&& (2147483647 : Int32)) (2147483647 : Int32))), .val (.int (own_wh (0 : Int32) (2147483647 : Int32)))] [])) _
        refine XS.iload X63.here hx rfl (hb hby at_57) rfl ?_
        show Steps p.tables e below (T63.setTop (mkF m 59 #[.val (.int p0), .val (.int p1), .val (.int (p0 &&& (2147483647 : Int32))), .val (.int (2147483647 : Int32)), .val (.ref b47), .val (.int (own_wh (p0 &&& (2147483647 : Int32)) (2147483647 : Int32))), .val (.int (own_wh (0 : Int32) (2147483647 : Int32)))] [(.int (own_wh (0 : Int32) (2147483647 : Int32)))])) _
        refine XS.ifNo X63.here hx rfl (hb hby at_59) rfl ((if0 _ _).trans (feq (by decide : ¬ ((own_wh (0 : Int32) (2147483647 : Int32)) = (0 : Int32)))).1) ?_
        show Steps p.tables e below (T63.setTop (mkF m 62 #[.val (.int p0), .val (.int p1), .val (.int (p0 &&& (2147483647 : Int32))), .val (.int (2147483647 : Int32)), .val (.ref b47), .val (.int (own_wh (p0 &&& (2147483647 : Int32)) (2147483647 : Int32))), .val (.int (own_wh (0 : Int32) (2147483647 : Int32)))] [])) _
        refine XS.iload X63.here hx rfl (hb hby at_62) rfl ?_
        show Steps p.tables e below (T63.setTop (mkF m 64 #[.val (.int p0), .val (.int p1), .val (.int (p0 &&& (2147483647 : Int32))), .val (.int (2147483647 : Int32)), .val (.ref b47), .val (.int (own_wh (p0 &&& (2147483647 : Int32)) (2147483647 : Int32))), .val (.int (own_wh (0 : Int32) (2147483647 : Int32)))] [(.int (own_wh (p0 &&& (2147483647 : Int32)) (2147483647 : Int32)))])) _
        refine XS.iloadN X63.here hx rfl (hb hby at_64) rfl ?_
        show Steps p.tables e below (T63.setTop (mkF m 65 #[.val (.int p0), .val (.int p1), .val (.int (p0 &&& (2147483647 : Int32))), .val (.int (2147483647 : Int32)), .val (.ref b47), .val (.int (own_wh (p0 &&& (2147483647 : Int32)) (2147483647 : Int32))), .val (.int (own_wh (0 : Int32) (2147483647 : Int32)))] [(.int (p0 &&& (2147483647 : Int32))), (.int (own_wh (p0 &&& (2147483647 : Int32)) (2147483647 : Int32)))])) _
        refine XS.iloadN X63.here hx rfl (hb hby at_65) rfl ?_
        show Steps p.tables e below (T63.setTop (mkF m 66 #[.val (.int p0), .val (.int p1), .val (.int (p0 &&& (2147483647 : Int32))), .val (.int (2147483647 : Int32)), .val (.ref b47), .val (.int (own_wh (p0 &&& (2147483647 : Int32)) (2147483647 : Int32))), .val (.int (own_wh (0 : Int32) (2147483647 : Int32)))] [(.int (2147483647 : Int32)), (.int (p0 &&& (2147483647 : Int32))), (.int (own_wh (p0 &&& (2147483647 : Int32)) (2147483647 : Int32)))])) _
        refine st66 _ ?_
        show Steps p.tables e below (T66.setTop (mkF m 69 #[.val (.int p0), .val (.int p1), .val (.int (p0 &&& (2147483647 : Int32))), .val (.int (2147483647 : Int32)), .val (.ref b47), .val (.int (own_wh (p0 &&& (2147483647 : Int32)) (2147483647 : Int32))), .val (.int (own_wh (0 : Int32) (2147483647 : Int32)))] [(.int (own_wh (p0 &&& (2147483647 : Int32)) (2147483647 : Int32))), (.int (own_wh (p0 &&& (2147483647 : Int32)) (2147483647 : Int32)))])) _
        refine XS.icmpNo X66.here hx rfl (hb hby at_69) rfl (teq (rfl : (own_wh (p0 &&& (2147483647 : Int32)) (2147483647 : Int32)) = (own_wh (p0 &&& (2147483647 : Int32)) (2147483647 : Int32)))).2 ?_
        show Steps p.tables e below (T66.setTop (mkF m 72 #[.val (.int p0), .val (.int p1), .val (.int (p0 &&& (2147483647 : Int32))), .val (.int (2147483647 : Int32)), .val (.ref b47), .val (.int (own_wh (p0 &&& (2147483647 : Int32)) (2147483647 : Int32))), .val (.int (own_wh (0 : Int32) (2147483647 : Int32)))] [])) _
        refine XS.iconst X66.here hx rfl (hb hby at_72) ?_
        show Steps p.tables e below (T66.setTop (mkF m 73 #[.val (.int p0), .val (.int p1), .val (.int (p0 &&& (2147483647 : Int32))), .val (.int (2147483647 : Int32)), .val (.ref b47), .val (.int (own_wh (p0 &&& (2147483647 : Int32)) (2147483647 : Int32))), .val (.int (own_wh (0 : Int32) (2147483647 : Int32)))] [(.int (1 : Int32))])) _
        refine XS.goto X66.here hx rfl (pc0 := 73) (pc' := 77) rfl (hb hby at_73) (by decide) (by decide) ?_
        show Steps p.tables e below (T66.setTop (mkF m 77 #[.val (.int p0), .val (.int p1), .val (.int (p0 &&& (2147483647 : Int32))), .val (.int (2147483647 : Int32)), .val (.ref b47), .val (.int (own_wh (p0 &&& (2147483647 : Int32)) (2147483647 : Int32))), .val (.int (own_wh (0 : Int32) (2147483647 : Int32)))] [(.int (1 : Int32))])) _
        exact retN X66 hx (t := .boolean) Bd.returns (by simp) (hb hby at_77) hr
      · show own_Q0 n0 _ T66.heap _
        rw [e66]
        exact ⟨rfl, N66⟩
    · obtain ⟨T67, h67, X67, e67, E67, A67, D67, U67, st67⟩ := newO X0 hx hZ hown (hw _ (List.mem_of_getElem? (i := 1) rfl)) (hw _ (List.mem_of_getElem? (i := 2) rfl)) (hw _ (List.mem_of_getElem? (i := 3) rfl)) e0 (g := (mkF m 31 #[.val (.int p0), .val (.int p1), .val (.int (p0 &&& (2147483647 : Int32))), .val (.int (p1 &&& (2147483647 : Int32))), .unset, .unset, .unset] [])) rfl (hb hby at_31) (by decide) (by decide)
      obtain ⟨b67, g67⟩ : ∃ z, z = h0.size := ⟨_, rfl⟩
      rw [← g67] at A67 D67 U67 st67
      have ne68 : wL ≠ b67 := Nat.ne_of_lt (Nat.lt_of_lt_of_le P_E_wL.lt (Nat.le_of_eq g67.symm))
      have o67 : n0 ≤ b67 := Nat.le_trans Z0 (Nat.le_of_eq g67.symm)
      have z67 : h0.size ≤ b67 := Nat.le_trans (Keep.refl h0 []).1 (Nat.le_of_eq g67.symm)
      have K67 : Keep h0 h67 [] := (Keep.refl h0 []).ext E67
      have f69 : Fld Z h67 b67 "com/example/apq/apq/query/Page" "first" "I" (.int (0 : Int32)) := D67 (Or.inr (hw _ (List.mem_of_getElem? (i := 16) rfl))) (ty := .int) (by decide)
      have f70 : Fld Z h67 b67 "com/example/apq/apq/query/Page" "max" "I" (.int (0 : Int32)) := D67 (Or.inr (hw _ (List.mem_of_getElem? (i := 18) rfl))) (ty := .int) (by decide)
      have f71 : n0 ≤ h67.size := (Nat.le_trans Z0 E67.1)
      obtain ⟨_, _, ⟨T72, L72, k72, n72⟩, -, X72, ⟨Lc72, hQ72, l72, y72, z72⟩, st72⟩ := X67.specialBack hx (y := (⟨"com/example/apq/apq/query/Page", "<init>", "(II)V"⟩ : MethodName)) rfl hown (mvT hZ (hw _ (List.mem_of_getElem? (i := 4) rfl))) (mvT hZ (hw _ (List.mem_of_getElem? (i := 5) rfl))) (mvT hZ (hw _ (List.mem_of_getElem? (i := 6) rfl))) (by decide) (backOf (W := 1) (rmIni l Z a0 hw [] b67 (p0 &&& (2147483647 : Int32)) (p1 &&& (2147483647 : Int32)) h67 n0 f71 A67 f69 f70 (own_nn p0) (own_nn p1) o67) hZ (hw _ (List.mem_of_getElem? (i := 6) rfl)) (hw _ (List.mem_of_getElem? (i := 3) rfl)) (by decide) (by decide)) (g := (mkF m 37 #[.val (.int p0), .val (.int p1), .val (.int (p0 &&& (2147483647 : Int32))), .val (.int (p1 &&& (2147483647 : Int32))), .unset, .unset, .unset] [(.int (p1 &&& (2147483647 : Int32))), (.int (p0 &&& (2147483647 : Int32))), (.ref b67), (.ref b67)])) rfl (by rw [hml]; rfl) (Steps.refl _) (a := b67) (argsL := [(.int (p0 &&& (2147483647 : Int32))), (.int (p1 &&& (2147483647 : Int32)))]) (rest := [(.ref b67)]) (lenOf pd__II_V rfl) rfl (by show 2 * 0 + _ ≤ _; exact Nat.le_of_eq rfl) (hb hby at_37) (fun _ _ => ⟨rfl, e67, (by decide : 1 + 0 ≤ _), (by decide : 2 + 0 ≤ _)⟩)
      dsimp only [Pt.U, Pt.locs, Pt.cells, Pt.slots] at X72 l72 y72 z72 st72 hQ72
      subst l72 y72 z72
      obtain ⟨rfl, N72q, K72, f73, f74⟩ := hQ72
      have KK72 : Keep h0 T72.heap [] := Keep.trans K67 K72 (allS (Or.inr z67) all0)
      have N72 := Fr.app N0 N72q
      have f75 : n0 ≤ T72.heap.size := (Nat.le_trans f71 K72.1)
      have f77 : Exa Z T72.heap b67 "com/example/apq/apq/query/Page" := (A67.keep K72)
      obtain ⟨cq78, kq78, q78a, q78b, q78c⟩ := isOf hZ rfl f77
      obtain ⟨_, _, ⟨T76, L76, k76, n76⟩, -, X76, ⟨Lc76, hQ76, l76, y76, z76⟩, st76⟩ := X72.virtualBack hx (y := (⟨"com/example/apq/apq/query/Page", "whole", "()Z"⟩ : MethodName)) (z := (⟨"com/example/apq/apq/query/Page", "whole", "()Z"⟩ : MethodName)) hown (mvT hZ (hw _ (List.mem_of_getElem? (i := 19) rfl))) (mvT hZ (hw _ (List.mem_of_getElem? (i := 20) rfl))) (notFace_of_selects (args := #[]) (mvT hZ (hw _ (List.mem_of_getElem? (i := 22) rfl)))) (mvT hZ (hw _ (List.mem_of_getElem? (i := 22) rfl))) (mvT hZ (hw _ (List.mem_of_getElem? (i := 21) rfl))) (by decide) (backOf (W := 0) (rmWho l Z a0 hw [] b67 (p0 &&& (2147483647 : Int32)) (p1 &&& (2147483647 : Int32)) T72.heap n0 f75 f73 f74) hZ (hw _ (List.mem_of_getElem? (i := 23) rfl)) (hw _ (List.mem_of_getElem? (i := 3) rfl)) (by decide) (by decide)) q78a q78c (g := (mkF m 44 #[.val (.int p0), .val (.int p1), .val (.int (p0 &&& (2147483647 : Int32))), .val (.int (p1 &&& (2147483647 : Int32))), .val (.ref b67), .unset, .unset] [(.ref b67)])) rfl (by rw [hml]; rfl) (Steps.refl _) (argsL := []) (rest := []) (lenOf pd___Z rfl) rfl (by show 2 * 0 + _ ≤ _; exact Nat.le_of_eq rfl) (hb hby at_44) (fun _ _ => ⟨rfl, rfl, (by decide : 1 + 0 ≤ _), (by decide : 2 + 0 ≤ _)⟩)
      dsimp only [Pt.U, Pt.locs, Pt.cells, Pt.slots] at X76 l76 y76 z76 st76 hQ76
      subst l76 y76 z76
      obtain ⟨rfl, N76q, e76⟩ := hQ76
      have N76 := Fr.app N72 N76q
      have f79 : Sta Z T72.heap "com/example/apq/apq/query/Page" "ALL" "Lcom/example/apq/apq/query/Page;" (.ref wL) := (own_staKeep (P_S_Page_ALL.ext E67) K72 (nsS A67.nostat ns0))
      obtain ⟨T80, X80, e80, st80⟩ := getS2 X76 hx hZ hown (host := "") (Or.inl (hw _ (List.mem_of_getElem? (i := 25) rfl))) Via.refl e76 f79 (g := (mkF m 49 #[.val (.int p0), .val (.int p1), .val (.int (p0 &&& (2147483647 : Int32))), .val (.int (p1 &&& (2147483647 : Int32))), .val (.ref b67), .val (.int (own_wh (p0 &&& (2147483647 : Int32)) (p1 &&& (2147483647 : Int32)))), .unset] [])) rfl (hb hby at_49)
      have f81 : Fld Z T72.heap wL "com/example/apq/apq/query/Page" "first" "I" (.int (0 : Int32)) := ((P_F_wL_Page_first.ext E67).keep K72 (ninS ne68 nin0))
      have f82 : Fld Z T72.heap wL "com/example/apq/apq/query/Page" "max" "I" (.int (2147483647 : Int32)) := ((P_F_wL_Page_max.ext E67).keep K72 (ninS ne68 nin0))
      have f84 : Exa Z T72.heap wL "com/example/apq/apq/query/Page" := ((P_E_wL.ext E67).keep K72)
      obtain ⟨cq85, kq85, q85a, q85b, q85c⟩ := isOf hZ e80 f84
      obtain ⟨_, _, ⟨T83, L83, k83, n83⟩, -, X83, ⟨Lc83, hQ83, l83, y83, z83⟩, st83⟩ := X80.virtualBack hx (y := (⟨"com/example/apq/apq/query/Page", "whole", "()Z"⟩ : MethodName)) (z := (⟨"com/example/apq/apq/query/Page", "whole", "()Z"⟩ : MethodName)) hown (mvT hZ (hw _ (List.mem_of_getElem? (i := 19) rfl))) (mvT hZ (hw _ (List.mem_of_getElem? (i := 20) rfl))) (notFace_of_selects (args := #[]) (mvT hZ (hw _ (List.mem_of_getElem? (i := 22) rfl)))) (mvT hZ (hw _ (List.mem_of_getElem? (i := 22) rfl))) (mvT hZ (hw _ (List.mem_of_getElem? (i := 21) rfl))) (by decide) (backOf (W := 0) (rmWho l Z a0 hw [] wL (0 : Int32) (2147483647 : Int32) T72.heap n0 f75 f81 f82) hZ (hw _ (List.mem_of_getElem? (i := 23) rfl)) (hw _ (List.mem_of_getElem? (i := 3) rfl)) (by decide) (by decide)) q85a q85c (g := (mkF m 52 #[.val (.int p0), .val (.int p1), .val (.int (p0 &&& (2147483647 : Int32))), .val (.int (p1 &&& (2147483647 : Int32))), .val (.ref b67), .val (.int (own_wh (p0 &&& (2147483647 : Int32)) (p1 &&& (2147483647 : Int32)))), .unset] [(.ref wL)])) rfl (by rw [hml]; rfl) (Steps.refl _) (argsL := []) (rest := []) (lenOf pd___Z rfl) rfl (by show 2 * 0 + _ ≤ _; exact Nat.le_of_eq rfl) (hb hby at_52) (fun _ _ => ⟨rfl, e80, (by decide : 1 + 0 ≤ _), (by decide : 2 + 0 ≤ _)⟩)
      dsimp only [Pt.U, Pt.locs, Pt.cells, Pt.slots] at X83 l83 y83 z83 st83 hQ83
      subst l83 y83 z83
      obtain ⟨rfl, N83q, e83⟩ := hQ83
      have N83 := Fr.app N76 N83q
      obtain ⟨_, _, ⟨T86, L86, k86, n86⟩, -, X86, ⟨Lc86, hQ86, l86, y86, z86⟩, st86⟩ := Jvm.LawKit.callS X83 hx (y := (⟨"com/example/apq/apq/query/PageWholePinLaw", "expected", "(II)Z"⟩ : MethodName)) hown (mvT hZ (hw _ (List.mem_of_getElem? (i := 27) rfl))) (mvT hZ (hw _ (List.mem_of_getElem? (i := 28) rfl))) (mvT hZ (hw _ (List.mem_of_getElem? (i := 29) rfl))) (mvT hZ (hw _ (List.mem_of_getElem? (i := 30) rfl))) (by decide) (backOf (W := 1) (rmExp l Z a0 hw [] (p0 &&& (2147483647 : Int32)) (p1 &&& (2147483647 : Int32)) T72.heap n0 f75 ) hZ (hw _ (List.mem_of_getElem? (i := 30) rfl)) (hw _ (List.mem_of_getElem? (i := 29) rfl)) (by decide) (by decide)) (g := (mkF m 66 #[.val (.int p0), .val (.int p1), .val (.int (p0 &&& (2147483647 : Int32))), .val (.int (p1 &&& (2147483647 : Int32))), .val (.ref b67), .val (.int (own_wh (p0 &&& (2147483647 : Int32)) (p1 &&& (2147483647 : Int32)))), .val (.int (own_wh (0 : Int32) (2147483647 : Int32)))] [(.int (p1 &&& (2147483647 : Int32))), (.int (p0 &&& (2147483647 : Int32))), (.int (own_wh (p0 &&& (2147483647 : Int32)) (p1 &&& (2147483647 : Int32))))])) rfl (by rw [hml]; rfl) (argsL := [(.int (p0 &&& (2147483647 : Int32))), (.int (p1 &&& (2147483647 : Int32)))]) (rest := [(.int (own_wh (p0 &&& (2147483647 : Int32)) (p1 &&& (2147483647 : Int32))))]) (lenOf pd__II_Z rfl) rfl (by show 2 * 0 + _ ≤ _; exact Nat.le_of_eq rfl) (hb hby at_66) (fun _ _ => ⟨rfl, e83, (by decide : 1 + 0 ≤ _), (by decide : 2 + 0 ≤ _)⟩)
      dsimp only [Pt.U, Pt.locs, Pt.cells, Pt.slots] at X86 l86 y86 z86 st86 hQ86
      subst l86 y86 z86
      obtain ⟨rfl, N86q, e86⟩ := hQ86
      have N86 := Fr.app N83 N86q
      obtain ⟨fs, hr, hrun, hended, hW, hsame⟩ := X86.leave (v := some (.int (1 : Int32))) (fun h => by rw [Bd.returns] at h; cases h)
      refine ⟨_, _, pre46 _ ?_, hrun, hended, _, _, rfl, ?_, ⟨_, rfl⟩, hW, hsame.mono (by decide) (by decide)⟩
      · show Steps p.tables e below (s₁.setTop (mkF m 18 #[.val (.int p0), .val (.int p1), .val (.int (p0 &&& (2147483647 : Int32))), .unset, .unset, .unset, .unset] [(.int (p1 &&& (1 : Int32)))])) _
        refine XS.ifYes X0.here hx rfl (pc0 := 18) (pc' := 26) rfl (hb hby at_18) rfl ((if0 _ _).trans (feq hc18_45).2) (by decide) (by decide) ?_
        show Steps p.tables e below (s₁.setTop (mkF m 26 #[.val (.int p0), .val (.int p1), .val (.int (p0 &&& (2147483647 : Int32))), .unset, .unset, .unset, .unset] [])) _
        refine XS.iloadN X0.here hx rfl (hb hby at_26) rfl ?_
        show Steps p.tables e below (s₁.setTop (mkF m 27 #[.val (.int p0), .val (.int p1), .val (.int (p0 &&& (2147483647 : Int32))), .unset, .unset, .unset, .unset] [(.int p1)])) _
        refine X0.ldcInt hx hown (mvT hZ (hw _ (List.mem_of_getElem? (i := 0) rfl))) (g := (mkF m 27 #[.val (.int p0), .val (.int p1), .val (.int (p0 &&& (2147483647 : Int32))), .unset, .unset, .unset, .unset] [(.int p1)])) rfl (hb hby at_27) _ ?_
        show Steps p.tables e below (s₁.setTop (mkF m 29 #[.val (.int p0), .val (.int p1), .val (.int (p0 &&& (2147483647 : Int32))), .unset, .unset, .unset, .unset] [(.int (2147483647 : Int32)), (.int p1)])) _
        refine XS.iand X0.here hx rfl (hb hby at_29) rfl ?_
        show Steps p.tables e below (s₁.setTop (mkF m 30 #[.val (.int p0), .val (.int p1), .val (.int (p0 &&& (2147483647 : Int32))), .unset, .unset, .unset, .unset] [(.int (p1 &&& (2147483647 : Int32)))])) _
        refine XS.istoreN X0.here hx rfl (hb hby at_30) rfl (l' := #[.val (.int p0), .val (.int p1), .val (.int (p0 &&& (2147483647 : Int32))), .val (.int (p1 &&& (2147483647 : Int32))), .unset, .unset, .unset]) rfl ?_
        show Steps p.tables e below (s₁.setTop (mkF m 31 #[.val (.int p0), .val (.int p1), .val (.int (p0 &&& (2147483647 : Int32))), .val (.int (p1 &&& (2147483647 : Int32))), .unset, .unset, .unset] [])) _
        refine st67 _ ?_
        show Steps p.tables e below (T67.setTop (mkF m 34 #[.val (.int p0), .val (.int p1), .val (.int (p0 &&& (2147483647 : Int32))), .val (.int (p1 &&& (2147483647 : Int32))), .unset, .unset, .unset] [(.ref b67)])) _
        refine XS.dup X67.here hx rfl (hb hby at_34) rfl rfl ?_
        show Steps p.tables e below (T67.setTop (mkF m 35 #[.val (.int p0), .val (.int p1), .val (.int (p0 &&& (2147483647 : Int32))), .val (.int (p1 &&& (2147483647 : Int32))), .unset, .unset, .unset] [(.ref b67), (.ref b67)])) _
        refine XS.iloadN X67.here hx rfl (hb hby at_35) rfl ?_
        show Steps p.tables e below (T67.setTop (mkF m 36 #[.val (.int p0), .val (.int p1), .val (.int (p0 &&& (2147483647 : Int32))), .val (.int (p1 &&& (2147483647 : Int32))), .unset, .unset, .unset] [(.int (p0 &&& (2147483647 : Int32))), (.ref b67), (.ref b67)])) _
        refine XS.iloadN X67.here hx rfl (hb hby at_36) rfl ?_
        show Steps p.tables e below (T67.setTop (mkF m 37 #[.val (.int p0), .val (.int p1), .val (.int (p0 &&& (2147483647 : Int32))), .val (.int (p1 &&& (2147483647 : Int32))), .unset, .unset, .unset] [(.int (p1 &&& (2147483647 : Int32))), (.int (p0 &&& (2147483647 : Int32))), (.ref b67), (.ref b67)])) _
        refine st72.trans ?_
        show Steps p.tables e below (T72.setTop (mkF m 40 #[.val (.int p0), .val (.int p1), .val (.int (p0 &&& (2147483647 : Int32))), .val (.int (p1 &&& (2147483647 : Int32))), .unset, .unset, .unset] [(.ref b67)])) _
        refine XS.astore X72.here hx rfl (hb hby at_40) rfl rfl (l' := #[.val (.int p0), .val (.int p1), .val (.int (p0 &&& (2147483647 : Int32))), .val (.int (p1 &&& (2147483647 : Int32))), .val (.ref b67), .unset, .unset]) rfl ?_
        show Steps p.tables e below (T72.setTop (mkF m 42 #[.val (.int p0), .val (.int p1), .val (.int (p0 &&& (2147483647 : Int32))), .val (.int (p1 &&& (2147483647 : Int32))), .val (.ref b67), .unset, .unset] [])) _
        refine XS.aload X72.here hx rfl (hb hby at_42) rfl rfl ?_
        show Steps p.tables e below (T72.setTop (mkF m 44 #[.val (.int p0), .val (.int p1), .val (.int (p0 &&& (2147483647 : Int32))), .val (.int (p1 &&& (2147483647 : Int32))), .val (.ref b67), .unset, .unset] [(.ref b67)])) _
        refine st76.trans ?_
        show Steps p.tables e below (T76.setTop (mkF m 47 #[.val (.int p0), .val (.int p1), .val (.int (p0 &&& (2147483647 : Int32))), .val (.int (p1 &&& (2147483647 : Int32))), .val (.ref b67), .unset, .unset] [(.int (own_wh (p0 &&& (2147483647 : Int32)) (p1 &&& (2147483647 : Int32))))])) _
        refine XS.istore X76.here hx rfl (hb hby at_47) rfl (l' := #[.val (.int p0), .val (.int p1), .val (.int (p0 &&& (2147483647 : Int32))), .val (.int (p1 &&& (2147483647 : Int32))), .val (.ref b67), .val (.int (own_wh (p0 &&& (2147483647 : Int32)) (p1 &&& (2147483647 : Int32)))), .unset]) rfl ?_
        show Steps p.tables e below (T76.setTop (mkF m 49 #[.val (.int p0), .val (.int p1), .val (.int (p0 &&& (2147483647 : Int32))), .val (.int (p1 &&& (2147483647 : Int32))), .val (.ref b67), .val (.int (own_wh (p0 &&& (2147483647 : Int32)) (p1 &&& (2147483647 : Int32)))), .unset] [])) _
        refine st80 _ ?_
        show Steps p.tables e below (T80.setTop (mkF m 52 #[.val (.int p0), .val (.int p1), .val (.int (p0 &&& (2147483647 : Int32))), .val (.int (p1 &&& (2147483647 : Int32))), .val (.ref b67), .val (.int (own_wh (p0 &&& (2147483647 : Int32)) (p1 &&& (2147483647 : Int32)))), .unset] [(.ref wL)])) _
        refine st83.trans ?_
        show Steps p.tables e below (T83.setTop (mkF m 55 #[.val (.int p0), .val (.int p1), .val (.int (p0 &&& (2147483647 : Int32))), .val (.int (p1 &&& (2147483647 : Int32))), .val (.ref b67), .val (.int (own_wh (p0 &&& (2147483647 : Int32)) (p1 &&& (2147483647 : Int32)))), .unset] [(.int (own_wh (0 : Int32) (2147483647 : Int32)))])) _
        refine XS.istore X83.here hx rfl (hb hby at_55) rfl (l' := #[.val (.int p0), .val (.int p1), .val (.int (p0 &&& (2147483647 : Int32))), .val (.int (p1 &&& (2147483647 : Int32))), .val (.ref b67), .val (.int (own_wh (p0 &&& (2147483647 : Int32)) (p1 &&& (2147483647 : Int32)))), .val (.int (own_wh (0 : Int32) (2147483647 : Int32)))]) rfl ?_
        show Steps p.tables e below (T83.setTop (mkF m 57 #[.val (.int p0), .val (.int p1), .val (.int (p0 &&& (2147483647 : Int32))), .val (.int (p1 &&& (2147483647 : Int32))), .val (.ref b67), .val (.int (own_wh (p0 &&& (2147483647 : Int32)) (p1 &&& (2147483647 : Int32)))), .val (.int (own_wh (0 : Int32) (2147483647 : Int32)))] [])) _
        refine XS.iload X83.here hx rfl (hb hby at_57) rfl ?_
        show Steps p.tables e below (T83.setTop (mkF m 59 #[.val (.int p0), .val (.int p1), .val (.int (p0 &&& (2147483647 : Int32))), .val (.int (p1 &&& (2147483647 : Int32))), .val (.ref b67), .val (.int (own_wh (p0 &&& (2147483647 : Int32)) (p1 &&& (2147483647 : Int32)))), .val (.int (own_wh (0 : Int32) (2147483647 : Int32)))] [(.int (own_wh (0 : Int32) (2147483647 : Int32)))])) _
        refine XS.ifNo X83.here hx rfl (hb hby at_59) rfl ((if0 _ _).trans (feq (by decide : ¬ ((own_wh (0 : Int32) (2147483647 : Int32)) = (0 : Int32)))).1) ?_
        show Steps p.tables e below (T83.setTop (mkF m 62 #[.val (.int p0), .val (.int p1), .val (.int (p0 &&& (2147483647 : Int32))), .val (.int (p1 &&& (2147483647 : Int32))), .val (.ref b67), .val (.int (own_wh (p0 &&& (2147483647 : Int32)) (p1 &&& (2147483647 : Int32)))), .val (.int (own_wh (0 : Int32) (2147483647 : Int32)))] [])) _
        refine XS.iload X83.here hx rfl (hb hby at_62) rfl ?_
        show Steps p.tables e below (T83.setTop (mkF m 64 #[.val (.int p0), .val (.int p1), .val (.int (p0 &&& (2147483647 : Int32))), .val (.int (p1 &&& (2147483647 : Int32))), .val (.ref b67), .val (.int (own_wh (p0 &&& (2147483647 : Int32)) (p1 &&& (2147483647 : Int32)))), .val (.int (own_wh (0 : Int32) (2147483647 : Int32)))] [(.int (own_wh (p0 &&& (2147483647 : Int32)) (p1 &&& (2147483647 : Int32))))])) _
        refine XS.iloadN X83.here hx rfl (hb hby at_64) rfl ?_
        show Steps p.tables e below (T83.setTop (mkF m 65 #[.val (.int p0), .val (.int p1), .val (.int (p0 &&& (2147483647 : Int32))), .val (.int (p1 &&& (2147483647 : Int32))), .val (.ref b67), .val (.int (own_wh (p0 &&& (2147483647 : Int32)) (p1 &&& (2147483647 : Int32)))), .val (.int (own_wh (0 : Int32) (2147483647 : Int32)))] [(.int (p0 &&& (2147483647 : Int32))), (.int (own_wh (p0 &&& (2147483647 : Int32)) (p1 &&& (2147483647 : Int32))))])) _
        refine XS.iloadN X83.here hx rfl (hb hby at_65) rfl ?_
        show Steps p.tables e below (T83.setTop (mkF m 66 #[.val (.int p0), .val (.int p1), .val (.int (p0 &&& (2147483647 : Int32))), .val (.int (p1 &&& (2147483647 : Int32))), .val (.ref b67), .val (.int (own_wh (p0 &&& (2147483647 : Int32)) (p1 &&& (2147483647 : Int32)))), .val (.int (own_wh (0 : Int32) (2147483647 : Int32)))] [(.int (p1 &&& (2147483647 : Int32))), (.int (p0 &&& (2147483647 : Int32))), (.int (own_wh (p0 &&& (2147483647 : Int32)) (p1 &&& (2147483647 : Int32))))])) _
        refine st86 _ ?_
        show Steps p.tables e below (T86.setTop (mkF m 69 #[.val (.int p0), .val (.int p1), .val (.int (p0 &&& (2147483647 : Int32))), .val (.int (p1 &&& (2147483647 : Int32))), .val (.ref b67), .val (.int (own_wh (p0 &&& (2147483647 : Int32)) (p1 &&& (2147483647 : Int32)))), .val (.int (own_wh (0 : Int32) (2147483647 : Int32)))] [(.int (own_wh (p0 &&& (2147483647 : Int32)) (p1 &&& (2147483647 : Int32)))), (.int (own_wh (p0 &&& (2147483647 : Int32)) (p1 &&& (2147483647 : Int32))))])) _
        refine XS.icmpNo X86.here hx rfl (hb hby at_69) rfl (teq (rfl : (own_wh (p0 &&& (2147483647 : Int32)) (p1 &&& (2147483647 : Int32))) = (own_wh (p0 &&& (2147483647 : Int32)) (p1 &&& (2147483647 : Int32))))).2 ?_
        show Steps p.tables e below (T86.setTop (mkF m 72 #[.val (.int p0), .val (.int p1), .val (.int (p0 &&& (2147483647 : Int32))), .val (.int (p1 &&& (2147483647 : Int32))), .val (.ref b67), .val (.int (own_wh (p0 &&& (2147483647 : Int32)) (p1 &&& (2147483647 : Int32)))), .val (.int (own_wh (0 : Int32) (2147483647 : Int32)))] [])) _
        refine XS.iconst X86.here hx rfl (hb hby at_72) ?_
        show Steps p.tables e below (T86.setTop (mkF m 73 #[.val (.int p0), .val (.int p1), .val (.int (p0 &&& (2147483647 : Int32))), .val (.int (p1 &&& (2147483647 : Int32))), .val (.ref b67), .val (.int (own_wh (p0 &&& (2147483647 : Int32)) (p1 &&& (2147483647 : Int32)))), .val (.int (own_wh (0 : Int32) (2147483647 : Int32)))] [(.int (1 : Int32))])) _
        refine XS.goto X86.here hx rfl (pc0 := 73) (pc' := 77) rfl (hb hby at_73) (by decide) (by decide) ?_
        show Steps p.tables e below (T86.setTop (mkF m 77 #[.val (.int p0), .val (.int p1), .val (.int (p0 &&& (2147483647 : Int32))), .val (.int (p1 &&& (2147483647 : Int32))), .val (.ref b67), .val (.int (own_wh (p0 &&& (2147483647 : Int32)) (p1 &&& (2147483647 : Int32)))), .val (.int (own_wh (0 : Int32) (2147483647 : Int32)))] [(.int (1 : Int32))])) _
        exact retN X86 hx (t := .boolean) Bd.returns (by simp) (hb hby at_77) hr
      · show own_Q0 n0 _ T86.heap _
        rw [e86]
        exact ⟨rfl, N86⟩

set_option maxRecDepth 65536 in
set_option maxHeartbeats 40000000 in
theorem comes_1 {Post : Tables → Env → Array Value → State → Outcome → State → Prop} (hpost : ∀ tb e args s v u, (limb_1_1.after args s (.returned v) u = true ∧ limb_1_2.after args s (.returned v) u = true ∧ True) → FrameEnd s (.returned v) u (Jvm.fieldLocs frame_1_writes args s ++ Jvm.arrayLocs frame_1_arrays args s ++ Jvm.staticLocs frame_1_statics s) 16 128 → Post tb e args s (.returned v) u) :
    ArmFor flags0 classFile x code maxLocals ret World_1 tables_1 room_1 Calls_1 rest_1 Pre_1 Post := by
  intro l hfl _ _ p e ha hc hk s m args below hf hA hF happ hP
  obtain ⟨hcalls, hrest, hpre⟩ := hP
  obtain ⟨-, -, -, hnamed, -, -, -, hat⟩ := (Spec.applies_iff hf).mp happ
  obtain ⟨hg, hn⟩ := and_e (Cond.before_iff.mp (show (Jvm.Cond.and given_1 narrow_1).before args s = true from hpre))
  obtain ⟨g0, gr1⟩ := and_e hg
  obtain ⟨g1, g2⟩ := and_e gr1
  obtain ⟨k0, kr1⟩ := and_e hn
  obtain ⟨k1, k2⟩ := and_e kr1
  obtain ⟨w0, w1, rfl⟩ : ∃ w0 w1 : Value, args = #[w0, w1] := by
    have hs : args.size = 2 := by simpa [Cond.value, given_1] using g0
    obtain ⟨L⟩ := args
    match L, hs with
    | [w0, w1], _ => exact ⟨w0, w1, rfl⟩
  have hw := fun d (hd : d ∈ tables_1) => atoms_spec (ws := Jvm.Cond.code x code maxLocals ret :: tables_1) hat d (List.mem_cons_of_mem _ hd)
  have hfit : Fit s := fun {y c} hc i hi => by
    obtain ⟨ha, rfl⟩ := Array.getElem?_eq_some_iff.mp hc
    have q := List.all_eq_true.mp ((Array.all_eq_true_iff_forall_mem.mp hF) _ (Array.getElem_mem ha)) i (List.mem_range.mpr hi)
    simpa [Array.getElem?_eq_getElem hi] using q
  obtain ⟨i0, ei0⟩ := is_v g1
  obtain rfl : w0 = (.int i0) := Option.some.inj ei0
  obtain ⟨i1, ei1⟩ := is_v g2
  obtain rfl : w1 = (.int i1) := Option.some.inj ei1
  obtain ⟨wL, eL⟩ := exa_v k0
  obtain ⟨n, o, h1, h2, h3, _, L, rfl, ⟨rfl, N⟩, hq⟩ := rm0 l s _ hw tables_1 i0 i1 wL s.heap s.heap.size (Nat.le_refl _) (Sta.start eL (Or.inr ⟨(hw _ (List.mem_of_getElem? (i := 3) rfl)), (hw _ (List.mem_of_getElem? (i := 26) rfl))⟩)) (Exa.start eL k0) (own_fld eL (own_eqI k1)) (own_fld eL (own_eqI k2)) p e ha hc hk s m _ below hf ((Spec.applies_iff_loose hf).mp happ).1 ⟨rfl, State.Warmed39.refl s, rfl⟩ trivial
  refine ⟨n, _, h1, h2, h3, hpost _ _ _ _ _ _ ⟨Cond.after_iff.mpr rfl, Cond.after_iff.mpr (eq_i res_at (Term.int_eval (1)) rfl), trivial⟩ ⟨hq.1, hq.2.1, (hq.2.2.sift fun y hy => Or.inr (N y hy)).mono (by decide) (by decide)⟩⟩
theorem main_1_1 : Claimed_1_1 := comes_1 fun _ _ _ _ _ _ h hF => ⟨h.1, hF⟩
theorem main_1_2 : Claimed_1_2 := comes_1 fun _ _ _ _ _ _ h hF => ⟨h.2.1, hF⟩
end Jvm.Pilot.@@N@@
namespace Jvm.Pilot.@@N@@
open Jvm Jvm.ClassFile Sem Op Lib Jvm.Free Jvm.Stand Jvm.Pilot.@@N@@.Jvm.D
/-! MADE BY PROGRAM (witnessworld.py) out of the Statement's table words and the real class files: 10 classes; the members and pool entries that the words name. The judged class is class 1, her method 2. -/
namespace start1
open Jvm.ClassFile
def u (s : String) : CpInfo := .utf8 (stringToUtf16 s)
/-- a pool by its gaps: so many unusable entries, then the entry; so many at the end -/
def gap : Nat → List CpInfo → List CpInfo
  | 0, r => r
  | n + 1, r => .unusable :: gap n r
def poolList (es : List (Nat × CpInfo)) (last : Nat) : List CpInfo := es.foldr (fun e r => gap e.1 (e.2 :: r)) (gap last [])
def pool (es : List (Nat × CpInfo)) (last : Nat) : Array CpInfo := ⟨poolList es last⟩
def fileOf (pool : Array CpInfo) (this : Nat) (attrs : Array Attribute := #[]) (ms : Array MethodInfo := #[]) (fl : Nat := 33) (sup : Nat := 0) (ifs : Array Nat := #[]) (fds : Array FieldInfo := #[]) : ClassFile where
  minorVersion := 0
  majorVersion := 65
  constantPool := pool
  accessFlags := fl
  thisClass := this
  superClass := sup
  interfaces := ifs
  fields := fds
  methods := ms
  attributes := attrs
def plain (name : String) (sup : Option ClassId) : Class where
  name := name
  kind := .ordinary
  loader := none
  accessFlags := 33
  super := sup
  interfaces := #[]
  cf := none
  fields := #[]
  methods := #[]
  instanceTypes := #[]
  staticTypes := #[]
  resolved := #[]
  callSites := []
  init := .initialized
  statics := none
  mirror := none

def pool0 : Array CpInfo := pool [(5, u "<init>"), (0, u "()V"), (1, .class_ 10), (1, u "java/lang/Object")] 113

def k0c0 : Code := { maxStack := 0, maxLocals := 1, code := object_method_1_code, exceptionTable := #[], attributes := #[] }
def k0m0 : Method := { name := "<init>", desc := "()V", sig := { parameters := [], returnType := none }, accessFlags := 1, code := some k0c0 }
/-- java/lang/Object -/
def k0 : Class := { plain "java/lang/Object" none with
  accessFlags := 33
  interfaces := #[]
  cf := some (fileOf pool0 8 #[] #[{ accessFlags := 1, nameIndex := 5, descriptorIndex := 6, attributes := #[] }] 33 0 #[] #[])
  fields := #[]
  methods := #[k0m0]
  instanceTypes := #[]
  staticTypes := #[]
  resolved := Array.replicate 124 none
  statics := none }

def pool1 : Array CpInfo := pool [(2, .class_ 4), (1, u "java/lang/Object"), (0, u "<init>"), (0, u "()V"), (2, .integer 2147483647), (0, .class_ 11), (0, u "com/example/apq/apq/query/Page"), (0, .methodref 10 13), (0, .nameAndType 5 14), (0, u "(II)V"), (0, .methodref 10 16), (0, .nameAndType 17 18), (0, u "whole"), (0, u "()Z"), (0, .fieldref 10 20), (0, .nameAndType 21 22), (0, u "ALL"), (0, u "Lcom/example/apq/apq/query/Page;"), (0, .methodref 24 25), (0, .class_ 26), (0, .nameAndType 27 28), (0, u "com/example/apq/apq/query/PageWholePinLaw"), (0, u "expected"), (0, u "(II)Z"), (3, u "law")] 2

def k1m0 : Method := { name := "<init>", desc := "()V", sig := { parameters := [], returnType := none }, accessFlags := 2, code := none }
def k1c1 : Code := { maxStack := 2, maxLocals := 2, code := method_2_code, exceptionTable := #[], attributes := #[] }
def k1m1 : Method := { name := "expected", desc := "(II)Z", sig := { parameters := [.int, .int], returnType := some .boolean }, accessFlags := 10, code := some k1c1 }
def k1c2 : Code := { maxStack := 4, maxLocals := 7, code := code, exceptionTable := #[], attributes := #[] }
def k1m2 : Method := { name := "law", desc := "(II)Z", sig := { parameters := [.int, .int], returnType := some .boolean }, accessFlags := 9, code := some k1c2 }
/-- com/example/apq/apq/query/PageWholePinLaw -/
def k1 : Class := { plain "com/example/apq/apq/query/PageWholePinLaw" (some 0) with
  accessFlags := 49
  interfaces := #[]
  cf := some (fileOf pool1 24 #[] #[{ accessFlags := 2, nameIndex := 5, descriptorIndex := 6, attributes := #[] }, { accessFlags := 10, nameIndex := 27, descriptorIndex := 28, attributes := #[] }, { accessFlags := 9, nameIndex := 32, descriptorIndex := 28, attributes := #[] }] 49 2 #[] #[])
  fields := #[]
  methods := #[k1m0, k1m1, k1m2]
  instanceTypes := #[]
  staticTypes := #[]
  resolved := Array.replicate 35 none
  statics := none }

def pool2 : Array CpInfo := pool [(1, .methodref 2 3), (0, .class_ 4), (0, .nameAndType 5 6), (0, u "java/lang/Object"), (0, u "<init>"), (0, u "()V"), (0, .class_ 8), (0, u "java/lang/Record")] 13

def k2c0 : Code := { maxStack := 1, maxLocals := 1, code := jdk_30_method_1_code, exceptionTable := #[], attributes := #[] }
def k2m0 : Method := { name := "<init>", desc := "()V", sig := { parameters := [], returnType := none }, accessFlags := 4, code := some k2c0 }
/-- java/lang/Record -/
def k2 : Class := { plain "java/lang/Record" (some 0) with
  accessFlags := 1057
  interfaces := #[]
  cf := some (fileOf pool2 7 #[] #[{ accessFlags := 4, nameIndex := 5, descriptorIndex := 6, attributes := #[] }] 1057 2 #[] #[])
  fields := #[]
  methods := #[k2m0]
  instanceTypes := #[]
  staticTypes := #[]
  resolved := Array.replicate 22 none
  statics := none }

def pool3 : Array CpInfo := pool [(1, .methodref 2 3), (0, .class_ 4), (0, .nameAndType 5 6), (0, u "java/lang/Record"), (0, u "<init>"), (0, u "()V"), (23, .fieldref 31 32), (0, .class_ 33), (0, .nameAndType 34 35), (0, u "com/example/apq/apq/query/Page"), (0, u "first"), (0, u "I"), (0, .fieldref 31 37), (0, .nameAndType 38 35), (0, u "max"), (0, .integer 2147483647), (14, u "(II)V"), (2, u "ALL"), (0, u "Lcom/example/apq/apq/query/Page;"), (4, u "whole"), (0, u "()Z")] 25

def k3c0 : Code := { maxStack := 7, maxLocals := 3, code := prog_118_method_1_code, exceptionTable := #[], attributes := #[] }
def k3m0 : Method := { name := "<init>", desc := "(II)V", sig := { parameters := [.int, .int], returnType := none }, accessFlags := 1, code := some k3c0 }
def k3c1 : Code := { maxStack := 2, maxLocals := 1, code := prog_118_method_2_code, exceptionTable := #[], attributes := #[] }
def k3m1 : Method := { name := "whole", desc := "()Z", sig := { parameters := [], returnType := some .boolean }, accessFlags := 1, code := some k3c1 }
/-- com/example/apq/apq/query/Page -/
def k3 : Class := { plain "com/example/apq/apq/query/Page" (some 2) with
  accessFlags := 49
  interfaces := #[]
  cf := some (fileOf pool3 31 #[] #[{ accessFlags := 1, nameIndex := 5, descriptorIndex := 54, attributes := #[] }, { accessFlags := 1, nameIndex := 63, descriptorIndex := 64, attributes := #[] }] 49 2 #[] #[{ accessFlags := 18, nameIndex := 34, descriptorIndex := 35, attributes := #[] }, { accessFlags := 18, nameIndex := 38, descriptorIndex := 35, attributes := #[] }, { accessFlags := 25, nameIndex := 57, descriptorIndex := 58, attributes := #[] }])
  fields := #[{ name := "first", type := .int, accessFlags := 18, slot := 0, constantValue := 0 }, { name := "max", type := .int, accessFlags := 18, slot := 1, constantValue := 0 }, { name := "ALL", type := (.object "com/example/apq/apq/query/Page"), accessFlags := 25, slot := 0, constantValue := 0 }]
  methods := #[k3m0, k3m1]
  instanceTypes := #[.int, .int]
  staticTypes := #[(.object "com/example/apq/apq/query/Page")]
  resolved := Array.replicate 90 none
  statics := some 0 }

def pool4 : Array CpInfo := pool [(1, u "java/lang/Cloneable"), (0, .class_ 1), (0, u "java/lang/Object"), (0, .class_ 3)] 3

/-- java/lang/Cloneable -/
def k4 : Class := { plain "java/lang/Cloneable" (some 0) with
  accessFlags := 1537
  interfaces := #[]
  cf := some (fileOf pool4 2 #[] #[] 1537 4 #[] #[])
  fields := #[]
  methods := #[]
  instanceTypes := #[]
  staticTypes := #[]
  resolved := Array.replicate 8 none
  statics := none }

def pool5 : Array CpInfo := pool [(1, u "java/io/Serializable"), (0, .class_ 1), (0, u "java/lang/Object"), (0, .class_ 3)] 3

/-- java/io/Serializable -/
def k5 : Class := { plain "java/io/Serializable" (some 0) with
  accessFlags := 1537
  interfaces := #[]
  cf := some (fileOf pool5 2 #[] #[] 1537 4 #[] #[])
  fields := #[]
  methods := #[]
  instanceTypes := #[]
  staticTypes := #[]
  resolved := Array.replicate 8 none
  statics := none }

/-- the primitive byte -/
def k6 : Class := { plain "byte" none with kind := .primitive 'B', accessFlags := 0x411 }
/-- [B -/
def k7 : Class := { plain "[B" (some 0) with kind := .array 6 .byte, interfaces := #[4, 5], accessFlags := 1041 }

/-- the primitive int -/
def k8 : Class := { plain "int" none with kind := .primitive 'I', accessFlags := 0x411 }
/-- [I -/
def k9 : Class := { plain "[I" (some 0) with kind := .array 8 .int, interfaces := #[4, 5], accessFlags := 1041 }

def heap : Heap := #[{ cls := 3, slots := #[.ref 1], vm := .statics 3 },
  { cls := 3, slots := #[.int 0, .int 2147483647], vm := .none }]
def classes : Array Class := #[k0, k1, k2, k3, k4, k5, k6, k7, k8, k9]
def interned : List (Array UInt16 × Addr) := []
def slotsUsed : Nat := 3
def theMethod : MethodId := ⟨1, 2⟩
def args0 : Array Value := #[.int 1, .int 2]
def aboutOver (below : List Frame) : State where
  vm := { classes := classes, interned := interned.toArray }
  heap := heap
  slotsUsed := slotsUsed
  threads := #[{ frames := .invoking theMethod args0 :: below }]
def below0 : List Frame := [.native { method := ⟨0, 0⟩, args := #[] }]
def about1 : State := aboutOver below0
def p0 : Program := .bare "" "" ""
def e0 : Env := launch0.env 0 0 0
theorem w_frames : about1.frames = Frame.invoking theMethod args0 :: below0 := rfl
set_option maxRecDepth 65536 in
theorem w_args : argsFit about1.vm theMethod args0 = true := by decide +kernel
set_option maxRecDepth 65536 in
theorem w_heap : heapFits about1 = true := by decide +kernel
set_option maxRecDepth 65536 in
theorem w_runnable : about1.curStatus? = some .runnable := by decide +kernel
set_option maxRecDepth 65536 in
theorem w_alone : about1.alone = true := by decide +kernel
set_option maxRecDepth 65536 in
theorem w_named : about1.methodNamed? x = some theMethod := by decide +kernel
set_option maxRecDepth 65536 in
theorem w_hears : about1.hears theMethod below0 = true := by decide +kernel
set_option maxRecDepth 65536 in
theorem w_ripe : about1.ripe theMethod args0 below0 = true := by decide +kernel
theorem w_running : about1.status = .running := rfl
set_option maxRecDepth 65536 in
theorem w_room : about1.hasRoom e0.platform room_1 = true :=
  launch0.hasRoom_least _ room_1 (by decide +kernel) (by decide +kernel) (by decide +kernel) (by decide +kernel) (by decide +kernel) (by decide +kernel)
theorem allAtoms_all (ts : List Jvm.Cond) (a : Array Jvm.Value) (st : Jvm.State) : (allAtoms ts).before a st = ts.all (fun c => c.before a st) := by
  induction ts with
  | nil => rfl
  | cons c t ih =>
    show (Jvm.Cond.and c (allAtoms t)).before a st = _
    rw [Jvm.Cond.before_and, ih, List.all_cons]
def words1 : List Jvm.Cond := Jvm.Cond.code x code maxLocals ret :: tables_1
/-- a 'code' word, met by the world's own term for the bytes: nothing is compared byte by byte -/
theorem code_word {y : MethodName} {bytes : ByteArray} {mx : Nat} {rt : Option FieldType} {a : Array Value} {s : State} {m : MethodId} {meth : Method} {c : Code} (h1 : s.methodNamed? y = some m) (h2 : s.vm.method? m = some meth) (h3 : meth.code = some c) (h4 : c.code = bytes)
    (h5 : (c.maxLocals == mx && c.exceptionTable.isEmpty && decide (c.maxStack ≤ mostOperands) && decide (meth.sig.returnType = rt) && !meth.locks && decide (parseMethodDescriptor y.desc = some meth.sig)) = true) : (Jvm.Cond.code y bytes mx rt).before a s = true := by
  simp only [Bool.and_eq_true, beq_iff_eq, Bool.not_eq_true', decide_eq_true_eq] at h5
  obtain ⟨⟨⟨⟨⟨g1, g2⟩, g3⟩, g4⟩, g5⟩, g6⟩ := h5
  simp [Cond.before, Cond.holds, Cond.value, h1, h2, h3, h4, g1, g2, g3, g4, g5, g6]
def isCode : Jvm.Cond → Bool
  | .code _ _ _ _ => true
  | _ => false
theorem all_split {L : List Jvm.Cond} {P : Jvm.Cond → Bool} (h1 : L.all (fun c => isCode c || P c) = true) (h2 : ∀ c ∈ L.filter isCode, P c = true) : L.all P = true := by
  refine List.all_eq_true.mpr fun c hc => ?_
  have h := List.all_eq_true.mp h1 c hc
  rcases Bool.eq_false_or_eq_true (isCode c) with hi | hi
  · exact h2 c (List.mem_filter.mpr ⟨hc, hi⟩)
  · simpa [hi] using h
set_option maxRecDepth 65536 in
theorem w_c0 : (Jvm.Cond.code x code maxLocals ret).before args0 about1 = true := code_word (m := ⟨1, 2⟩) (meth := k1m2) (c := k1c2) (by decide +kernel) rfl rfl rfl (by decide +kernel)
set_option maxRecDepth 65536 in
theorem w_c1 : (Jvm.Cond.code ({ cls := "com/example/apq/apq/query/Page", name := "<init>", desc := "(II)V" } : Jvm.MethodName) prog_118_method_1_code (3 : Nat) (Option.none : Option Jvm.ClassFile.FieldType)).before args0 about1 = true := code_word (m := ⟨3, 0⟩) (meth := k3m0) (c := k3c0) (by decide +kernel) rfl rfl rfl (by decide +kernel)
set_option maxRecDepth 65536 in
theorem w_c2 : (Jvm.Cond.code ({ cls := "java/lang/Record", name := "<init>", desc := "()V" } : Jvm.MethodName) jdk_30_method_1_code (1 : Nat) (Option.none : Option Jvm.ClassFile.FieldType)).before args0 about1 = true := code_word (m := ⟨2, 0⟩) (meth := k2m0) (c := k2c0) (by decide +kernel) rfl rfl rfl (by decide +kernel)
set_option maxRecDepth 65536 in
theorem w_c3 : (Jvm.Cond.code ({ cls := "java/lang/Object", name := "<init>", desc := "()V" } : Jvm.MethodName) object_method_1_code (1 : Nat) (Option.none : Option Jvm.ClassFile.FieldType)).before args0 about1 = true := code_word (m := ⟨0, 0⟩) (meth := k0m0) (c := k0c0) (by decide +kernel) rfl rfl rfl (by decide +kernel)
set_option maxRecDepth 65536 in
theorem w_c4 : (Jvm.Cond.code ({ cls := "com/example/apq/apq/query/Page", name := "whole", desc := "()Z" } : Jvm.MethodName) prog_118_method_2_code (1 : Nat) (Option.some Jvm.ClassFile.FieldType.boolean)).before args0 about1 = true := code_word (m := ⟨3, 1⟩) (meth := k3m1) (c := k3c1) (by decide +kernel) rfl rfl rfl (by decide +kernel)
set_option maxRecDepth 65536 in
theorem w_c5 : (Jvm.Cond.code ({ cls := "com/example/apq/apq/query/PageWholePinLaw", name := "expected", desc := "(II)Z" } : Jvm.MethodName) method_2_code (2 : Nat) (Option.some Jvm.ClassFile.FieldType.boolean)).before args0 about1 = true := code_word (m := ⟨1, 1⟩) (meth := k1m1) (c := k1c1) (by decide +kernel) rfl rfl rfl (by decide +kernel)
def codes1 : List Jvm.Cond := [Jvm.Cond.code x code maxLocals ret, Jvm.Cond.code ({ cls := "com/example/apq/apq/query/Page", name := "<init>", desc := "(II)V" } : Jvm.MethodName) prog_118_method_1_code (3 : Nat) (Option.none : Option Jvm.ClassFile.FieldType), Jvm.Cond.code ({ cls := "java/lang/Record", name := "<init>", desc := "()V" } : Jvm.MethodName) jdk_30_method_1_code (1 : Nat) (Option.none : Option Jvm.ClassFile.FieldType), Jvm.Cond.code ({ cls := "java/lang/Object", name := "<init>", desc := "()V" } : Jvm.MethodName) object_method_1_code (1 : Nat) (Option.none : Option Jvm.ClassFile.FieldType), Jvm.Cond.code ({ cls := "com/example/apq/apq/query/Page", name := "whole", desc := "()Z" } : Jvm.MethodName) prog_118_method_2_code (1 : Nat) (Option.some Jvm.ClassFile.FieldType.boolean), Jvm.Cond.code ({ cls := "com/example/apq/apq/query/PageWholePinLaw", name := "expected", desc := "(II)Z" } : Jvm.MethodName) method_2_code (2 : Nat) (Option.some Jvm.ClassFile.FieldType.boolean)]
set_option maxRecDepth 65536 in
theorem codes_eq : words1.filter isCode = codes1 := rfl
theorem w_codes : ∀ c ∈ words1.filter isCode, c.before args0 about1 = true := by
  rw [codes_eq]
  intro c hc
  simp only [codes1, List.mem_cons, List.not_mem_nil, or_false] at hc
  rcases hc with rfl | rfl | rfl | rfl | rfl | rfl
  · exact w_c0
  · exact w_c1
  · exact w_c2
  · exact w_c3
  · exact w_c4
  · exact w_c5
set_option maxRecDepth 65536 in
theorem w_t1 : (words1.take 24).all (fun c => isCode c || c.before args0 about1) = true := by decide +kernel
set_option maxRecDepth 65536 in
theorem w_t2 : (words1.drop 24).all (fun c => isCode c || c.before args0 about1) = true := by decide +kernel
theorem w_tables : (allAtoms (Jvm.Cond.code x code maxLocals ret :: tables_1)).before args0 about1 = true := by
  rw [allAtoms_all]
  show words1.all (fun c => c.before args0 about1) = true
  refine all_split ?_ w_codes
  rw [← List.take_append_drop 24 words1, List.all_append, w_t1, w_t2]
  rfl
set_option maxRecDepth 65536 in
theorem w_case : (Jvm.Cond.and given_1 narrow_1).before args0 about1 = true := by decide +kernel
theorem w_applies : (headSpec (Jvm.Cond.code x code maxLocals ret :: tables_1) room_1).applies x e0.platform about1 = true :=
  (Spec.applies_iff w_frames).mpr ⟨w_running, w_runnable, w_alone, w_named, w_hears, w_ripe, w_room, w_tables⟩
theorem atStart : AtStart classFile x code maxLocals ret World_1 tables_1 room_1 Calls_1 rest_1 Pre_1 launch0 p0 e0 about1 theMethod args0 below0 :=
  ⟨lists_1, trivial, launch0.admits_env _ _ _, launch0.least_env, fairChoices_fair.cas, fairChoices_fair.clock, w_frames, w_args, w_heap, w_applies, trivial, trivial, w_case⟩
end start1
theorem witness_1 : WitnessClaimed_1 := ⟨start1.p0, start1.e0, start1.about1, start1.theMethod, start1.args0, start1.below0, start1.atStart⟩
end Jvm.Pilot.@@N@@
