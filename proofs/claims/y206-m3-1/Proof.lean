import JvmDerived
import JvmDerived.Pilot.@@N@@Statement
import JvmDerived.Pilot.@@N@@Code
set_option linter.unusedVariables false
set_option linter.unusedSimpArgs false
namespace Jvm.Pilot.@@N@@
open Jvm Jvm.ClassFile Sem Op Lib Jvm.Free Jvm.Stand Jvm.LawKit Jvm.RoadKit Bundle Jvm.Pilot.@@N@@.Jvm.D
def own_QP (r : Option Value) (h0 : Heap) (n0 : Nat) (v : Option Value) (h : Heap) (L : List Loc) : Prop := v = r ∧ Fr n0 L ∧ h = h0
def own_Q0 (n0 : Nat) (v : Option Value) (h : Heap) (L : List Loc) : Prop := v = some (.int 1) ∧ Fr n0 L
section OwnWords
variable {args : Array Value} {s : State}
theorem own_eqI {t : Term} {k : Int32} (h : (Jvm.Cond.eq t (.int k)).value args s none s [] = some true) : t.eval args s none [] s = some (.int k) := by
  obtain ⟨x, y, h1, h2, h3, h4⟩ := cmp_v (Or.inl h)
  obtain rfl : y = .int k := (Option.some.inj h2).symm
  obtain ⟨z, rfl⟩ := h4
  have q := gotT (Cond.eq_ints h1 h2) h
  rw [h1, q]
theorem own_eqR {t u : Term} {b : Addr} (h : (Jvm.Cond.eq t u).value args s none s [] = some true) (hu : u.eval args s none [] s = some (.ref b)) : t.eval args s none [] s = some (.ref b) := by
  obtain ⟨x, y, h1, h2, h3, h4⟩ := cmp_v (Or.inl h)
  obtain rfl : y = .ref b := Option.some.inj (h2.symm.trans hu)
  have q := gotT (eq_R h1 h2 h4.2 h4.1) h
  rw [h1, q]
theorem own_fld {t : Term} {C n d : String} {a : Addr} {v : Value} (ht : t.eval args s none [] s = some (.ref a)) (h : (Term.field t C n d).eval args s none [] s = some v) : Fld s s.heap a C n d v := Fld.start ((fld_at ht).symm.trans h)
end OwnWords
theorem own_staKeep {Z : State} {h h' : Heap} {C n d : String} {v : Value} {ws : List Addr} (F : Sta Z h C n d v) (K : Keep h h' ws) (q : ∀ x ∈ ws, ∀ cell : Cell, h[x]? = some cell → cell.vm.isStatics = false) : Sta Z h' C n d v := by
  obtain ⟨cf, i, k, f, st, cell, h1, h2, h3, h4, h5, h6, h7⟩ := F
  refine ⟨cf, i, k, f, st, cell, h1, h2, h3, h4, K.2.1 st cell h5 (fun z => ?_), h6, h7⟩
  rw [q st z cell h5] at h6; cases h6
theorem own_negmin {q : Int64} (h : ¬ (q = (-9223372036854775808 : Int64))) : ¬ ((-q) = (-9223372036854775808 : Int64)) := fun e => h (by
  have e2 : -(-q) = -(-9223372036854775808 : Int64) := congrArg (fun z : Int64 => -z) e
  rw [Int64.neg_neg] at e2
  rw [e2]; decide)
theorem own_min1 {q : Int64} (h : q = (-9223372036854775808 : Int64)) : ¬ ((q + (1 : Int64)) = (-9223372036854775808 : Int64)) := by subst h; decide
theorem own_min2 {q : Int64} (h : q = (-9223372036854775808 : Int64)) : ¬ ((-(q + (1 : Int64))) = (-9223372036854775808 : Int64)) := by subst h; decide
theorem own_zs (q : Int64) : (-q) = ((0 : Int64) - q) := (Int64.zero_sub q).symm
theorem d2_0 : decode jdk_29_method_42_code 0 = .ok (.lload_n 0, 1) := by decide +kernel
theorem d2_1 : decode jdk_29_method_42_code 1 = .ok (.ldc2_w 128, 3) := by decide +kernel
theorem d2_4 : decode jdk_29_method_42_code 4 = .ok (.lcmp, 1) := by decide +kernel
theorem d2_5 : decode jdk_29_method_42_code 5 = .ok (.ifCond .ne 13, 3) := by decide +kernel
theorem d2_18 : decode jdk_29_method_42_code 18 = .ok (.lload_n 0, 1) := by decide +kernel
theorem d2_19 : decode jdk_29_method_42_code 19 = .ok (.lneg, 1) := by decide +kernel
theorem d2_20 : decode jdk_29_method_42_code 20 = .ok (.lreturn, 1) := by decide +kernel
theorem d1_0 : decode prog_39_method_6_code 0 = .ok (.aload_n 0, 1) := by decide +kernel
theorem d1_1 : decode prog_39_method_6_code 1 = .ok (.getstatic 3, 3) := by decide +kernel
theorem d1_4 : decode prog_39_method_6_code 4 = .ok (.if_acmp .ne 7, 3) := by decide +kernel
theorem d1_7 : decode prog_39_method_6_code 7 = .ok (.lload_n 1, 1) := by decide +kernel
theorem d1_8 : decode prog_39_method_6_code 8 = .ok (.goto 7, 3) := by decide +kernel
theorem d1_15 : decode prog_39_method_6_code 15 = .ok (.lreturn, 1) := by decide +kernel
theorem pn_1 : plainName "com/example/nearai/nearai/Side" = true := by first | (simp [plainName, overriddenIn]; done) | decide +kernel
theorem d1_11 : decode prog_39_method_6_code 11 = .ok (.lload_n 1, 1) := by decide +kernel
theorem d1_12 : decode prog_39_method_6_code 12 = .ok (.invokestatic 33, 3) := by decide +kernel
theorem pd__J_J : parseMethodDescriptor "(J)J" = some ⟨[.long], some .long⟩ := by decide +kernel
theorem pn_0 : plainName "com/example/nearai/nearai/SideSignedPinLaw" = true := by first | (simp [plainName, overriddenIn]; done) | decide +kernel
theorem ef_rm2 (m : MethodId) (q0 : Int64) : entryFrame m #[(.long q0)] 2 = mkF m 0 #[.val (.long q0), .second] [] := by first | (simp [entryFrame, mkF, argsToLocals, Value.category]; done) | rfl
set_option maxRecDepth 65536 in
set_option maxHeartbeats 40000000 in
theorem rm2 (l : Launch) (Z : State) (a0 : Array Value) (hw : ∀ d ∈ tables_1, d.before a0 Z = true) (ws : List Jvm.Cond) (q0 : Int64) (h0 : Heap) (n0 : Nat) (Z0 : n0 ≤ h0.size) (hne : ¬ (q0 = (-9223372036854775808 : Int64))) :
    MetFree l (⟨"java/lang/Math", "negateExact", "(J)J"⟩ : MethodName) (head1 (Jvm.Cond.code (⟨"java/lang/Math", "negateExact", "(J)J"⟩ : MethodName) jdk_29_method_42_code 2 (some .long) :: ws) ({ frames := 0, cells := 0, slots := 0, locals := 0 } : Room)) (fun a U => a = #[(.long q0)] ∧ Z.Warmed39 U.vm ∧ U.heap = h0) (fun _ _ _ _ _ => True) (fun _ U o U' => ∃ v L, o = .returned v ∧ own_QP (some (.long (-q0))) h0 n0 v U'.heap L ∧ FrameEnd U o U' L ({ frames := 0, cells := 0, slots := 0, locals := 0 } : Room).cells ({ frames := 0, cells := 0, slots := 0, locals := 0 } : Room).slots) := by
  refine MetFree.of_bodySF (Jvm.Free.JP.mathPlain rfl (by decide +kernel)) hisR ?_
  intro p e s m args below meth c s₁ Bd hml0 hP hK
  obtain ⟨rfl, hZ, hh⟩ := hP
  have hx := Bd.exec
  have hby := Bd.bytes
  have hml : c.maxLocals = 2 := hml0
  have hown : s.vm.findClass "java/lang/Math" = some m.cls := findClass_of_methodNamed Bd.named
  have hnm := (name_of_methodNamed Bd.named Bd.method).1
  have X0 : Stand p l e ({ frames := 0, cells := 0, slots := 0, locals := 0 } : Room) s m #[(.long q0)] below meth c s₁ [] 0 0 := Stand.of_body Bd
  have e0 : s₁.heap = h0 := by rw [← hh, Bd.state]; rfl
  have N0 := Fr.nil n0
  have pre0 : ∀ t, Steps p.tables e below (s₁.setTop (mkF m 0 #[.val (.long q0), .second] [])) t → Steps p.tables e below (s₁.setTop (entryFrame m #[(.long q0)] 2)) t := fun t k => castTop (ef_rm2 m q0) k
  obtain ⟨fs, hr, hrun, hended, hW, hsame⟩ := X0.leave (v := some (.long (-q0))) (fun h => by rw [Bd.returns] at h; cases h)
  refine ⟨_, _, pre0 _ ?_, hrun, hended, _, _, rfl, ?_, ⟨_, rfl⟩, hW, hsame.mono (by decide) (by decide)⟩
  · show Steps p.tables e below (s₁.setTop (mkF m 0 #[.val (.long q0), .second] [])) _
    refine XS.lloadN X0.here hx rfl (hb hby d2_0) rfl ?_
    show Steps p.tables e below (s₁.setTop (mkF m 1 #[.val (.long q0), .second] [(.long q0)])) _
    refine X0.ldc2Long hx hown (mvT hZ (hw _ (List.mem_of_getElem? (i := 16) rfl))) (g := (mkF m 1 #[.val (.long q0), .second] [(.long q0)])) rfl (hb hby d2_1) _ ?_
    show Steps p.tables e below (s₁.setTop (mkF m 4 #[.val (.long q0), .second] [(.long (-9223372036854775808 : Int64)), (.long q0)])) _
    refine XS.lcmp X0.here hx rfl (hb hby d2_4) rfl ?_
    show Steps p.tables e below (s₁.setTop (mkF m 5 #[.val (.long q0), .second] [(.int (lcmpW q0 (-9223372036854775808 : Int64)))])) _
    refine XS.ifYes X0.here hx rfl (pc0 := 5) (pc' := 18) rfl (hb hby d2_5) rfl ((if0 _ _).trans (feq (fun qq => hne ((lw_eq _ _).mp qq))).2) (by decide) (by decide) ?_
    show Steps p.tables e below (s₁.setTop (mkF m 18 #[.val (.long q0), .second] [])) _
    refine XS.lloadN X0.here hx rfl (hb hby d2_18) rfl ?_
    show Steps p.tables e below (s₁.setTop (mkF m 19 #[.val (.long q0), .second] [(.long q0)])) _
    refine XS.lneg X0.here hx rfl (hb hby d2_19) rfl ?_
    show Steps p.tables e below (s₁.setTop (mkF m 20 #[.val (.long q0), .second] [(.long (-q0))])) _
    jvm_step X0.here [X0.here.top, hx, (hb hby d2_20), X0.method', Bd.returns, narrow]
    first | (intro acts; rw [hr _ acts rfl rfl rfl]) | rw [hr _ _ rfl rfl rfl]
    exact Steps.refl _
  · show own_QP (some (.long (-q0))) h0 n0 _ s₁.heap _
    rw [e0]
    exact ⟨rfl, N0, rfl⟩

theorem ef_rm1B (m : MethodId) (wB : Addr) (q1 : Int64) : entryFrame m #[(.ref wB), (.long q1)] 3 = mkF m 0 #[.val (.ref wB), .val (.long q1), .second] [] := by first | (simp [entryFrame, mkF, argsToLocals, Value.category]; done) | rfl
set_option maxRecDepth 65536 in
set_option maxHeartbeats 40000000 in
theorem rm1B (l : Launch) (Z : State) (a0 : Array Value) (hw : ∀ d ∈ tables_1, d.before a0 Z = true) (ws : List Jvm.Cond) (q1 : Int64) (wB : Addr) (h0 : Heap) (n0 : Nat) (Z0 : n0 ≤ h0.size) (P_S_Side_BUY : Sta Z h0 "com/example/nearai/nearai/Side" "BUY" "Lcom/example/nearai/nearai/Side;" (.ref wB)) :
    MetFree l (⟨"com/example/nearai/nearai/Side", "signed", "(J)J"⟩ : MethodName) (head1 (Jvm.Cond.code (⟨"com/example/nearai/nearai/Side", "signed", "(J)J"⟩ : MethodName) prog_39_method_6_code 3 (some .long) :: ws) ({ frames := 0, cells := 0, slots := 0, locals := 0 } : Room)) (fun a U => a = #[(.ref wB), (.long q1)] ∧ Z.Warmed39 U.vm ∧ U.heap = h0) (fun _ _ _ _ _ => True) (fun _ U o U' => ∃ v L, o = .returned v ∧ own_QP (some (.long q1)) h0 n0 v U'.heap L ∧ FrameEnd U o U' L ({ frames := 0, cells := 0, slots := 0, locals := 0 } : Room).cells ({ frames := 0, cells := 0, slots := 0, locals := 0 } : Room).slots) := by
  refine MetFree.of_bodySF (plainFor_of_name pn_1) hisR ?_
  intro p e s m args below meth c s₁ Bd hml0 hP hK
  obtain ⟨rfl, hZ, hh⟩ := hP
  have hx := Bd.exec
  have hby := Bd.bytes
  have hml : c.maxLocals = 3 := hml0
  have hown : s.vm.findClass "com/example/nearai/nearai/Side" = some m.cls := findClass_of_methodNamed Bd.named
  have hnm := (name_of_methodNamed Bd.named Bd.method).1
  have X0 : Stand p l e ({ frames := 0, cells := 0, slots := 0, locals := 0 } : Room) s m #[(.ref wB), (.long q1)] below meth c s₁ [] 0 0 := Stand.of_body Bd
  have e0 : s₁.heap = h0 := by rw [← hh, Bd.state]; rfl
  have N0 := Fr.nil n0
  have pre0 : ∀ t, Steps p.tables e below (s₁.setTop (mkF m 0 #[.val (.ref wB), .val (.long q1), .second] [])) t → Steps p.tables e below (s₁.setTop (entryFrame m #[(.ref wB), (.long q1)] 3)) t := fun t k => castTop (ef_rm1B m wB q1) k
  obtain ⟨T1, X1, e1, st1⟩ := getS2 X0 hx hZ hown (host := "") (Or.inl (hw _ (List.mem_of_getElem? (i := 8) rfl))) Via.refl e0 P_S_Side_BUY (g := (mkF m 1 #[.val (.ref wB), .val (.long q1), .second] [(.ref wB)])) rfl (hb hby d1_1)
  obtain ⟨fs, hr, hrun, hended, hW, hsame⟩ := X1.leave (v := some (.long q1)) (fun h => by rw [Bd.returns] at h; cases h)
  refine ⟨_, _, pre0 _ ?_, hrun, hended, _, _, rfl, ?_, ⟨_, rfl⟩, hW, hsame.mono (by decide) (by decide)⟩
  · show Steps p.tables e below (s₁.setTop (mkF m 0 #[.val (.ref wB), .val (.long q1), .second] [])) _
    refine XS.aloadN X0.here hx rfl (hb hby d1_0) rfl rfl ?_
    show Steps p.tables e below (s₁.setTop (mkF m 1 #[.val (.ref wB), .val (.long q1), .second] [(.ref wB)])) _
    refine st1 _ ?_
    show Steps p.tables e below (T1.setTop (mkF m 4 #[.val (.ref wB), .val (.long q1), .second] [(.ref wB), (.ref wB)])) _
    refine Jvm.RoadKit.acmp (g := (mkF m 4 #[.val (.ref wB), .val (.long q1), .second] [(.ref wB), (.ref wB)])) X1 hx rfl rfl rfl (pc0 := 4) (pc' := 7) (same := true) rfl (hb hby d1_4) rfl (decide_eq_true rfl) (by decide) (by decide) ?_
    show Steps p.tables e below (T1.setTop (mkF m 7 #[.val (.ref wB), .val (.long q1), .second] [])) _
    refine XS.lloadN X1.here hx rfl (hb hby d1_7) rfl ?_
    show Steps p.tables e below (T1.setTop (mkF m 8 #[.val (.ref wB), .val (.long q1), .second] [(.long q1)])) _
    refine XS.goto X1.here hx rfl (pc0 := 8) (pc' := 15) rfl (hb hby d1_8) (by decide) (by decide) ?_
    show Steps p.tables e below (T1.setTop (mkF m 15 #[.val (.ref wB), .val (.long q1), .second] [(.long q1)])) _
    jvm_step X1.here [X1.here.top, hx, (hb hby d1_15), X1.method', Bd.returns, narrow]
    first | (intro acts; rw [hr _ acts rfl rfl rfl]) | rw [hr _ _ rfl rfl rfl]
    exact Steps.refl _
  · show own_QP (some (.long q1)) h0 n0 _ T1.heap _
    rw [e1]
    exact ⟨rfl, N0, rfl⟩

theorem ef_rm1S (m : MethodId) (wS : Addr) (q1 : Int64) : entryFrame m #[(.ref wS), (.long q1)] 3 = mkF m 0 #[.val (.ref wS), .val (.long q1), .second] [] := by first | (simp [entryFrame, mkF, argsToLocals, Value.category]; done) | rfl
set_option maxRecDepth 65536 in
set_option maxHeartbeats 40000000 in
theorem rm1S (l : Launch) (Z : State) (a0 : Array Value) (hw : ∀ d ∈ tables_1, d.before a0 Z = true) (ws : List Jvm.Cond) (q1 : Int64) (wB : Addr) (wS : Addr) (h0 : Heap) (n0 : Nat) (Z0 : n0 ≤ h0.size) (P_S_Side_BUY : Sta Z h0 "com/example/nearai/nearai/Side" "BUY" "Lcom/example/nearai/nearai/Side;" (.ref wB)) (ne0 : wS ≠ wB) (hne : ¬ (q1 = (-9223372036854775808 : Int64))) :
    MetFree l (⟨"com/example/nearai/nearai/Side", "signed", "(J)J"⟩ : MethodName) (head1 (Jvm.Cond.code (⟨"com/example/nearai/nearai/Side", "signed", "(J)J"⟩ : MethodName) prog_39_method_6_code 3 (some .long) :: ws) ({ frames := 1, cells := 0, slots := 0, locals := 13 } : Room)) (fun a U => a = #[(.ref wS), (.long q1)] ∧ Z.Warmed39 U.vm ∧ U.heap = h0) (fun _ _ _ _ _ => True) (fun _ U o U' => ∃ v L, o = .returned v ∧ own_QP (some (.long (-q1))) h0 n0 v U'.heap L ∧ FrameEnd U o U' L ({ frames := 1, cells := 0, slots := 0, locals := 13 } : Room).cells ({ frames := 1, cells := 0, slots := 0, locals := 13 } : Room).slots) := by
  refine MetFree.of_bodySF (plainFor_of_name pn_1) hisR ?_
  intro p e s m args below meth c s₁ Bd hml0 hP hK
  obtain ⟨rfl, hZ, hh⟩ := hP
  have hx := Bd.exec
  have hby := Bd.bytes
  have hml : c.maxLocals = 3 := hml0
  have hown : s.vm.findClass "com/example/nearai/nearai/Side" = some m.cls := findClass_of_methodNamed Bd.named
  have hnm := (name_of_methodNamed Bd.named Bd.method).1
  have X0 : Stand p l e ({ frames := 1, cells := 0, slots := 0, locals := 13 } : Room) s m #[(.ref wS), (.long q1)] below meth c s₁ [] 0 0 := Stand.of_body Bd
  have e0 : s₁.heap = h0 := by rw [← hh, Bd.state]; rfl
  have N0 := Fr.nil n0
  have pre0 : ∀ t, Steps p.tables e below (s₁.setTop (mkF m 0 #[.val (.ref wS), .val (.long q1), .second] [])) t → Steps p.tables e below (s₁.setTop (entryFrame m #[(.ref wS), (.long q1)] 3)) t := fun t k => castTop (ef_rm1S m wS q1) k
  obtain ⟨T1, X1, e1, st1⟩ := getS2 X0 hx hZ hown (host := "") (Or.inl (hw _ (List.mem_of_getElem? (i := 8) rfl))) Via.refl e0 P_S_Side_BUY (g := (mkF m 1 #[.val (.ref wS), .val (.long q1), .second] [(.ref wS)])) rfl (hb hby d1_1)
  obtain ⟨_, _, ⟨T2, L2, k2, n2⟩, -, X2, ⟨Lc2, hQ2, l2, y2, z2⟩, st2⟩ := Jvm.LawKit.callS X1 hx (y := (⟨"java/lang/Math", "negateExact", "(J)J"⟩ : MethodName)) hown (mvT hZ (hw _ (List.mem_of_getElem? (i := 12) rfl))) (mvT hZ (hw _ (List.mem_of_getElem? (i := 13) rfl))) (mvT hZ (hw _ (List.mem_of_getElem? (i := 14) rfl))) (mvT hZ (hw _ (List.mem_of_getElem? (i := 15) rfl))) (by decide) (backOf (W := 0) (rm2 l Z a0 hw [] q1 h0 n0 Z0 hne) hZ (hw _ (List.mem_of_getElem? (i := 15) rfl)) (hw _ (List.mem_of_getElem? (i := 14) rfl)) (by decide) (by decide)) (g := (mkF m 12 #[.val (.ref wS), .val (.long q1), .second] [(.long q1)])) rfl (by rw [hml]; rfl) (argsL := [(.long q1)]) (rest := []) (lenOf pd__J_J rfl) rfl (by show 2 * 0 + _ ≤ _; exact Nat.le_of_eq rfl) (hb hby d1_12) (fun _ _ => ⟨rfl, e1, (by decide : 0 + 0 ≤ _), (by decide : 0 + 0 ≤ _)⟩)
  dsimp only [Pt.U, Pt.locs, Pt.cells, Pt.slots] at X2 l2 y2 z2 st2 hQ2
  subst l2 y2 z2
  obtain ⟨rfl, N2q, e2⟩ := hQ2
  have N2 := Fr.app N0 N2q
  obtain ⟨fs, hr, hrun, hended, hW, hsame⟩ := X2.leave (v := some (.long (-q1))) (fun h => by rw [Bd.returns] at h; cases h)
  refine ⟨_, _, pre0 _ ?_, hrun, hended, _, _, rfl, ?_, ⟨_, rfl⟩, hW, hsame.mono (by decide) (by decide)⟩
  · show Steps p.tables e below (s₁.setTop (mkF m 0 #[.val (.ref wS), .val (.long q1), .second] [])) _
    refine XS.aloadN X0.here hx rfl (hb hby d1_0) rfl rfl ?_
    show Steps p.tables e below (s₁.setTop (mkF m 1 #[.val (.ref wS), .val (.long q1), .second] [(.ref wS)])) _
    refine st1 _ ?_
    show Steps p.tables e below (T1.setTop (mkF m 4 #[.val (.ref wS), .val (.long q1), .second] [(.ref wB), (.ref wS)])) _
    refine Jvm.RoadKit.acmp (g := (mkF m 4 #[.val (.ref wS), .val (.long q1), .second] [(.ref wB), (.ref wS)])) X1 hx rfl rfl rfl (pc0 := 4) (pc' := 11) (same := false) rfl (hb hby d1_4) rfl (decide_eq_false fun q => ne0 (Value.ref.inj q)) (by decide) (by decide) ?_
    show Steps p.tables e below (T1.setTop (mkF m 11 #[.val (.ref wS), .val (.long q1), .second] [])) _
    refine XS.lloadN X1.here hx rfl (hb hby d1_11) rfl ?_
    show Steps p.tables e below (T1.setTop (mkF m 12 #[.val (.ref wS), .val (.long q1), .second] [(.long q1)])) _
    refine st2 _ ?_
    show Steps p.tables e below (T2.setTop (mkF m 15 #[.val (.ref wS), .val (.long q1), .second] [(.long (-q1))])) _
    jvm_step X2.here [X2.here.top, hx, (hb hby d1_15), X2.method', Bd.returns, narrow]
    first | (intro acts; rw [hr _ acts rfl rfl rfl]) | rw [hr _ _ rfl rfl rfl]
    exact Steps.refl _
  · show own_QP (some (.long (-q1))) h0 n0 _ T2.heap _
    rw [e2]
    exact ⟨rfl, N2, rfl⟩

theorem ef_rm0 (m : MethodId) (q0 : Int64) (p1 : Int32) : entryFrame m #[(.long q0), (.int p1)] maxLocals = mkF m 0 #[.val (.long q0), .second, .val (.int p1), .unset, .unset, .unset, .unset, .unset] [] := by first | (simp [entryFrame, mkF, argsToLocals, Value.category, maxLocals]; done) | rfl
set_option maxRecDepth 65536 in
set_option maxHeartbeats 40000000 in
theorem rm0 (l : Launch) (Z : State) (a0 : Array Value) (hw : ∀ d ∈ tables_1, d.before a0 Z = true) (ws : List Jvm.Cond) (q0 : Int64) (p1 : Int32) (wB : Addr) (wS : Addr) (h0 : Heap) (n0 : Nat) (Z0 : n0 ≤ h0.size) (P_S_Side_BUY : Sta Z h0 "com/example/nearai/nearai/Side" "BUY" "Lcom/example/nearai/nearai/Side;" (.ref wB)) (P_S_Side_SELL : Sta Z h0 "com/example/nearai/nearai/Side" "SELL" "Lcom/example/nearai/nearai/Side;" (.ref wS)) (P_E_wB : Exa Z h0 wB "com/example/nearai/nearai/Side") (P_E_wS : Exa Z h0 wS "com/example/nearai/nearai/Side") (ne0 : wS ≠ wB) :
    MetFree l x (head1 (Jvm.Cond.code x code maxLocals ret :: ws) room_1) (fun a U => a = #[(.long q0), (.int p1)] ∧ Z.Warmed39 U.vm ∧ U.heap = h0) (fun _ _ _ _ _ => True) (fun _ U o U' => ∃ v L, o = .returned v ∧ own_Q0 n0 v U'.heap L ∧ FrameEnd U o U' L room_1.cells room_1.slots) := by
  refine MetFree.of_bodySF (plainFor_of_name pn_0) hisR ?_
  intro p e s m args below meth c s₁ Bd hml0 hP hK
  obtain ⟨rfl, hZ, hh⟩ := hP
  have hx := Bd.exec
  have hby := Bd.bytes
  have hml : c.maxLocals = 8 := hml0
  have hown : s.vm.findClass "com/example/nearai/nearai/SideSignedPinLaw" = some m.cls := findClass_of_methodNamed Bd.named
  have hnm := (name_of_methodNamed Bd.named Bd.method).1
  have X0 : Stand p l e room_1 s m #[(.long q0), (.int p1)] below meth c s₁ [] 0 0 := Stand.of_body Bd
  have e0 : s₁.heap = h0 := by rw [← hh, Bd.state]; rfl
  have N0 := Fr.nil n0
  have pre0 : ∀ t, Steps p.tables e below (s₁.setTop (mkF m 0 #[.val (.long q0), .second, .val (.int p1), .unset, .unset, .unset, .unset, .unset] [])) t → Steps p.tables e below (s₁.setTop (entryFrame m #[(.long q0), (.int p1)] maxLocals)) t := fun t k => castTop (ef_rm0 m q0 p1) k
  have pre2 : ∀ t, Steps p.tables e below (s₁.setTop (mkF m 3 #[.val (.long q0), .second, .val (.int p1), .unset, .unset, .unset, .unset, .unset] [(.int (p1 &&& (1 : Int32)))])) t → Steps p.tables e below (s₁.setTop (entryFrame m #[(.long q0), (.int p1)] maxLocals)) t := fun t kt => pre0 t (by
      show Steps p.tables e below (s₁.setTop (mkF m 0 #[.val (.long q0), .second, .val (.int p1), .unset, .unset, .unset, .unset, .unset] [])) _
      refine XS.iloadN X0.here hx rfl (hb hby at_0) rfl ?_
      show Steps p.tables e below (s₁.setTop (mkF m 1 #[.val (.long q0), .second, .val (.int p1), .unset, .unset, .unset, .unset, .unset] [(.int p1)])) _
      refine XS.iconst X0.here hx rfl (hb hby at_1) ?_
      show Steps p.tables e below (s₁.setTop (mkF m 2 #[.val (.long q0), .second, .val (.int p1), .unset, .unset, .unset, .unset, .unset] [(.int (1 : Int32)), (.int p1)])) _
      refine XS.iand X0.here hx rfl (hb hby at_2) rfl ?_
      exact kt)
  by_cases hc3_1 : (p1 &&& (1 : Int32)) = (0 : Int32)
  · obtain ⟨T3, X3, e3, st3⟩ := getS2 X0 hx hZ hown (host := "") (Or.inl (hw _ (List.mem_of_getElem? (i := 0) rfl))) Via.refl e0 P_S_Side_BUY (g := (mkF m 12 #[.val (.long q0), .second, .val (.int p1), .unset, .unset, .unset, .unset, .unset] [])) rfl (hb hby at_12)
    obtain ⟨T4, X4, e4, st4⟩ := getS2 X3 hx hZ hown (host := "") (Or.inl (hw _ (List.mem_of_getElem? (i := 0) rfl))) Via.refl e3 P_S_Side_BUY (g := (mkF m 17 #[.val (.long q0), .second, .val (.int p1), .val (.ref wB), .unset, .unset, .unset, .unset] [(.ref wB)])) rfl (hb hby at_17)
    obtain ⟨cq6, kq6, q6a, q6b, q6c⟩ := isOf hZ e4 P_E_wB
    obtain ⟨_, _, ⟨T5, L5, k5, n5⟩, -, X5, ⟨Lc5, hQ5, l5, y5, z5⟩, st5⟩ := X4.virtualBack hx (y := (⟨"com/example/nearai/nearai/Side", "signed", "(J)J"⟩ : MethodName)) (z := (⟨"com/example/nearai/nearai/Side", "signed", "(J)J"⟩ : MethodName)) hown (mvT hZ (hw _ (List.mem_of_getElem? (i := 3) rfl))) (mvT hZ (hw _ (List.mem_of_getElem? (i := 4) rfl))) (notFace_of_selects (args := #[]) (mvT hZ (hw _ (List.mem_of_getElem? (i := 6) rfl)))) (mvT hZ (hw _ (List.mem_of_getElem? (i := 6) rfl))) (mvT hZ (hw _ (List.mem_of_getElem? (i := 5) rfl))) (by decide) (backOf (W := 0) (rm1B l Z a0 hw [] q0 wB h0 n0 Z0 P_S_Side_BUY) hZ (hw _ (List.mem_of_getElem? (i := 7) rfl)) (hw _ (List.mem_of_getElem? (i := 1) rfl)) (by decide) (by decide)) q6a q6c (g := (mkF m 25 #[.val (.long q0), .second, .val (.int p1), .val (.ref wB), .unset, .unset, .unset, .unset] [(.long q0), (.ref wB)])) rfl (by rw [hml]; rfl) (Steps.refl _) (argsL := [(.long q0)]) (rest := []) (lenOf pd__J_J rfl) rfl (by show 2 * 0 + _ ≤ _; exact Nat.le_of_eq rfl) (hb hby at_25) (fun _ _ => ⟨rfl, e4, (by decide : 0 + 0 ≤ _), (by decide : 0 + 0 ≤ _)⟩)
    dsimp only [Pt.U, Pt.locs, Pt.cells, Pt.slots] at X5 l5 y5 z5 st5 hQ5
    subst l5 y5 z5
    obtain ⟨rfl, N5q, e5⟩ := hQ5
    have N5 := Fr.app N0 N5q
    obtain ⟨fs, hr, hrun, hended, hW, hsame⟩ := X5.leave (v := some (.int (1 : Int32))) (fun h => by rw [Bd.returns] at h; cases h)
    refine ⟨_, _, pre2 _ ?_, hrun, hended, _, _, rfl, ?_, ⟨_, rfl⟩, hW, hsame.mono (by decide) (by decide)⟩
    · show Steps p.tables e below (s₁.setTop (mkF m 3 #[.val (.long q0), .second, .val (.int p1), .unset, .unset, .unset, .unset, .unset] [(.int (p1 &&& (1 : Int32)))])) _
      refine XS.ifYes X0.here hx rfl (pc0 := 3) (pc' := 12) rfl (hb hby at_3) rfl ((if0 _ _).trans (teq hc3_1).1) (by decide) (by decide) ?_
      show Steps p.tables e below (s₁.setTop (mkF m 12 #[.val (.long q0), .second, .val (.int p1), .unset, .unset, .unset, .unset, .unset] [])) _
      refine st3 _ ?_
      show Steps p.tables e below (T3.setTop (mkF m 15 #[.val (.long q0), .second, .val (.int p1), .unset, .unset, .unset, .unset, .unset] [(.ref wB)])) _
      refine XS.astoreN X3.here hx rfl (hb hby at_15) rfl rfl (l' := #[.val (.long q0), .second, .val (.int p1), .val (.ref wB), .unset, .unset, .unset, .unset]) rfl ?_
      show Steps p.tables e below (T3.setTop (mkF m 16 #[.val (.long q0), .second, .val (.int p1), .val (.ref wB), .unset, .unset, .unset, .unset] [])) _
      refine XS.aloadN X3.here hx rfl (hb hby at_16) rfl rfl ?_
      show Steps p.tables e below (T3.setTop (mkF m 17 #[.val (.long q0), .second, .val (.int p1), .val (.ref wB), .unset, .unset, .unset, .unset] [(.ref wB)])) _
      refine st4 _ ?_
      show Steps p.tables e below (T4.setTop (mkF m 20 #[.val (.long q0), .second, .val (.int p1), .val (.ref wB), .unset, .unset, .unset, .unset] [(.ref wB), (.ref wB)])) _
      refine Jvm.RoadKit.acmp (g := (mkF m 20 #[.val (.long q0), .second, .val (.int p1), .val (.ref wB), .unset, .unset, .unset, .unset] [(.ref wB), (.ref wB)])) X4 hx rfl rfl rfl (pc0 := 20) (pc' := 23) (same := true) rfl (hb hby at_20) rfl (decide_eq_true rfl) (by decide) (by decide) ?_
      show Steps p.tables e below (T4.setTop (mkF m 23 #[.val (.long q0), .second, .val (.int p1), .val (.ref wB), .unset, .unset, .unset, .unset] [])) _
      refine XS.aloadN X4.here hx rfl (hb hby at_23) rfl rfl ?_
      show Steps p.tables e below (T4.setTop (mkF m 24 #[.val (.long q0), .second, .val (.int p1), .val (.ref wB), .unset, .unset, .unset, .unset] [(.ref wB)])) _
      refine XS.lloadN X4.here hx rfl (hb hby at_24) rfl ?_
      show Steps p.tables e below (T4.setTop (mkF m 25 #[.val (.long q0), .second, .val (.int p1), .val (.ref wB), .unset, .unset, .unset, .unset] [(.long q0), (.ref wB)])) _
      refine st5.trans ?_
      show Steps p.tables e below (T5.setTop (mkF m 28 #[.val (.long q0), .second, .val (.int p1), .val (.ref wB), .unset, .unset, .unset, .unset] [(.long q0)])) _
      refine XS.lloadN X5.here hx rfl (hb hby at_28) rfl ?_
      show Steps p.tables e below (T5.setTop (mkF m 29 #[.val (.long q0), .second, .val (.int p1), .val (.ref wB), .unset, .unset, .unset, .unset] [(.long q0), (.long q0)])) _
      refine XS.lcmp X5.here hx rfl (hb hby at_29) rfl ?_
      show Steps p.tables e below (T5.setTop (mkF m 30 #[.val (.long q0), .second, .val (.int p1), .val (.ref wB), .unset, .unset, .unset, .unset] [(.int (lcmpW q0 q0))])) _
      refine XS.ifNo X5.here hx rfl (hb hby at_30) rfl ((if0 _ _).trans (teq ((lw_eq _ _).mpr (rfl : q0 = q0))).2) ?_
      show Steps p.tables e below (T5.setTop (mkF m 33 #[.val (.long q0), .second, .val (.int p1), .val (.ref wB), .unset, .unset, .unset, .unset] [])) _
      refine XS.iconst X5.here hx rfl (hb hby at_33) ?_
      show Steps p.tables e below (T5.setTop (mkF m 34 #[.val (.long q0), .second, .val (.int p1), .val (.ref wB), .unset, .unset, .unset, .unset] [(.int (1 : Int32))])) _
      refine XS.goto X5.here hx rfl (pc0 := 34) (pc' := 38) rfl (hb hby at_34) (by decide) (by decide) ?_
      show Steps p.tables e below (T5.setTop (mkF m 38 #[.val (.long q0), .second, .val (.int p1), .val (.ref wB), .unset, .unset, .unset, .unset] [(.int (1 : Int32))])) _
      exact retN X5 hx (t := .boolean) Bd.returns (by simp) (hb hby at_38) hr
    · show own_Q0 n0 _ T5.heap _
      rw [e5]
      exact ⟨rfl, N5⟩
  · obtain ⟨T7, X7, e7, st7⟩ := getS2 X0 hx hZ hown (host := "") (Or.inl (hw _ (List.mem_of_getElem? (i := 9) rfl))) Via.refl e0 P_S_Side_SELL (g := (mkF m 6 #[.val (.long q0), .second, .val (.int p1), .unset, .unset, .unset, .unset, .unset] [])) rfl (hb hby at_6)
    obtain ⟨T8, X8, e8, st8⟩ := getS2 X7 hx hZ hown (host := "") (Or.inl (hw _ (List.mem_of_getElem? (i := 0) rfl))) Via.refl e7 P_S_Side_BUY (g := (mkF m 17 #[.val (.long q0), .second, .val (.int p1), .val (.ref wS), .unset, .unset, .unset, .unset] [(.ref wS)])) rfl (hb hby at_17)
    have pre10 : ∀ t, Steps p.tables e below (T8.setTop (mkF m 44 #[.val (.long q0), .second, .val (.int p1), .val (.ref wS), .unset, .unset, .unset, .unset] [(.int (lcmpW q0 (-9223372036854775808 : Int64)))])) t → Steps p.tables e below (s₁.setTop (entryFrame m #[(.long q0), (.int p1)] maxLocals)) t := fun t kt => pre2 t (by
        show Steps p.tables e below (s₁.setTop (mkF m 3 #[.val (.long q0), .second, .val (.int p1), .unset, .unset, .unset, .unset, .unset] [(.int (p1 &&& (1 : Int32)))])) _
        refine XS.ifNo X0.here hx rfl (hb hby at_3) rfl ((if0 _ _).trans (feq hc3_1).1) ?_
        show Steps p.tables e below (s₁.setTop (mkF m 6 #[.val (.long q0), .second, .val (.int p1), .unset, .unset, .unset, .unset, .unset] [])) _
        refine st7 _ ?_
        show Steps p.tables e below (T7.setTop (mkF m 9 #[.val (.long q0), .second, .val (.int p1), .unset, .unset, .unset, .unset, .unset] [(.ref wS)])) _
        refine XS.goto X7.here hx rfl (pc0 := 9) (pc' := 15) rfl (hb hby at_9) (by decide) (by decide) ?_
        show Steps p.tables e below (T7.setTop (mkF m 15 #[.val (.long q0), .second, .val (.int p1), .unset, .unset, .unset, .unset, .unset] [(.ref wS)])) _
        refine XS.astoreN X7.here hx rfl (hb hby at_15) rfl rfl (l' := #[.val (.long q0), .second, .val (.int p1), .val (.ref wS), .unset, .unset, .unset, .unset]) rfl ?_
        show Steps p.tables e below (T7.setTop (mkF m 16 #[.val (.long q0), .second, .val (.int p1), .val (.ref wS), .unset, .unset, .unset, .unset] [])) _
        refine XS.aloadN X7.here hx rfl (hb hby at_16) rfl rfl ?_
        show Steps p.tables e below (T7.setTop (mkF m 17 #[.val (.long q0), .second, .val (.int p1), .val (.ref wS), .unset, .unset, .unset, .unset] [(.ref wS)])) _
        refine st8 _ ?_
        show Steps p.tables e below (T8.setTop (mkF m 20 #[.val (.long q0), .second, .val (.int p1), .val (.ref wS), .unset, .unset, .unset, .unset] [(.ref wB), (.ref wS)])) _
        refine Jvm.RoadKit.acmp (g := (mkF m 20 #[.val (.long q0), .second, .val (.int p1), .val (.ref wS), .unset, .unset, .unset, .unset] [(.ref wB), (.ref wS)])) X8 hx rfl rfl rfl (pc0 := 20) (pc' := 39) (same := false) rfl (hb hby at_20) rfl (decide_eq_false fun q => ne0 (Value.ref.inj q)) (by decide) (by decide) ?_
        show Steps p.tables e below (T8.setTop (mkF m 39 #[.val (.long q0), .second, .val (.int p1), .val (.ref wS), .unset, .unset, .unset, .unset] [])) _
        refine XS.lloadN X8.here hx rfl (hb hby at_39) rfl ?_
        show Steps p.tables e below (T8.setTop (mkF m 40 #[.val (.long q0), .second, .val (.int p1), .val (.ref wS), .unset, .unset, .unset, .unset] [(.long q0)])) _
        refine X8.ldc2Long hx hown (mvT hZ (hw _ (List.mem_of_getElem? (i := 11) rfl))) (g := (mkF m 40 #[.val (.long q0), .second, .val (.int p1), .val (.ref wS), .unset, .unset, .unset, .unset] [(.long q0)])) rfl (hb hby at_40) _ ?_
        show Steps p.tables e below (T8.setTop (mkF m 43 #[.val (.long q0), .second, .val (.int p1), .val (.ref wS), .unset, .unset, .unset, .unset] [(.long (-9223372036854775808 : Int64)), (.long q0)])) _
        refine XS.lcmp X8.here hx rfl (hb hby at_43) rfl ?_
        exact kt)
    by_cases hc44_9 : q0 = (-9223372036854775808 : Int64)
    · obtain ⟨cq12, kq12, q12a, q12b, q12c⟩ := isOf hZ e8 P_E_wS
      obtain ⟨_, _, ⟨T11, L11, k11, n11⟩, -, X11, ⟨Lc11, hQ11, l11, y11, z11⟩, st11⟩ := X8.virtualBack hx (y := (⟨"com/example/nearai/nearai/Side", "signed", "(J)J"⟩ : MethodName)) (z := (⟨"com/example/nearai/nearai/Side", "signed", "(J)J"⟩ : MethodName)) hown (mvT hZ (hw _ (List.mem_of_getElem? (i := 3) rfl))) (mvT hZ (hw _ (List.mem_of_getElem? (i := 4) rfl))) (notFace_of_selects (args := #[]) (mvT hZ (hw _ (List.mem_of_getElem? (i := 6) rfl)))) (mvT hZ (hw _ (List.mem_of_getElem? (i := 6) rfl))) (mvT hZ (hw _ (List.mem_of_getElem? (i := 5) rfl))) (by decide) (backOf (W := 0) (rm1S l Z a0 hw [] (q0 + (1 : Int64)) wB wS h0 n0 Z0 P_S_Side_BUY ne0 (own_min1 hc44_9)) hZ (hw _ (List.mem_of_getElem? (i := 7) rfl)) (hw _ (List.mem_of_getElem? (i := 1) rfl)) (by decide) (by decide)) q12a q12c (g := (mkF m 59 #[.val (.long q0), .second, .val (.int p1), .val (.ref wS), .val (.long (q0 + (1 : Int64))), .second, .unset, .unset] [(.long (q0 + (1 : Int64))), (.ref wS)])) rfl (by rw [hml]; rfl) (Steps.refl _) (argsL := [(.long (q0 + (1 : Int64)))]) (rest := []) (lenOf pd__J_J rfl) rfl (by show 2 * 0 + _ ≤ _; exact Nat.le_of_eq rfl) (hb hby at_59) (fun _ _ => ⟨rfl, e8, (by decide : 0 + 0 ≤ _), (by decide : 0 + 0 ≤ _)⟩)
      dsimp only [Pt.U, Pt.locs, Pt.cells, Pt.slots] at X11 l11 y11 z11 st11 hQ11
      subst l11 y11 z11
      obtain ⟨rfl, N11q, e11⟩ := hQ11
      have N11 := Fr.app N0 N11q
      obtain ⟨cq14, kq14, q14a, q14b, q14c⟩ := isOf hZ e11 P_E_wS
      obtain ⟨_, _, ⟨T13, L13, k13, n13⟩, -, X13, ⟨Lc13, hQ13, l13, y13, z13⟩, st13⟩ := X11.virtualBack hx (y := (⟨"com/example/nearai/nearai/Side", "signed", "(J)J"⟩ : MethodName)) (z := (⟨"com/example/nearai/nearai/Side", "signed", "(J)J"⟩ : MethodName)) hown (mvT hZ (hw _ (List.mem_of_getElem? (i := 3) rfl))) (mvT hZ (hw _ (List.mem_of_getElem? (i := 4) rfl))) (notFace_of_selects (args := #[]) (mvT hZ (hw _ (List.mem_of_getElem? (i := 6) rfl)))) (mvT hZ (hw _ (List.mem_of_getElem? (i := 6) rfl))) (mvT hZ (hw _ (List.mem_of_getElem? (i := 5) rfl))) (by decide) (backOf (W := 0) (rm1S l Z a0 hw [] (-(q0 + (1 : Int64))) wB wS h0 n0 Z0 P_S_Side_BUY ne0 (own_min2 hc44_9)) hZ (hw _ (List.mem_of_getElem? (i := 7) rfl)) (hw _ (List.mem_of_getElem? (i := 1) rfl)) (by decide) (by decide)) q14a q14c (g := (mkF m 77 #[.val (.long q0), .second, .val (.int p1), .val (.ref wS), .val (.long (q0 + (1 : Int64))), .second, .val (.long (-(q0 + (1 : Int64)))), .second] [(.long (-(q0 + (1 : Int64)))), (.ref wS)])) rfl (by rw [hml]; rfl) (Steps.refl _) (argsL := [(.long (-(q0 + (1 : Int64))))]) (rest := []) (lenOf pd__J_J rfl) rfl (by show 2 * 0 + _ ≤ _; exact Nat.le_of_eq rfl) (hb hby at_77) (fun _ _ => ⟨rfl, e11, (by decide : 0 + 0 ≤ _), (by decide : 0 + 0 ≤ _)⟩)
      dsimp only [Pt.U, Pt.locs, Pt.cells, Pt.slots] at X13 l13 y13 z13 st13 hQ13
      subst l13 y13 z13
      obtain ⟨rfl, N13q, e13⟩ := hQ13
      have N13 := Fr.app N11 N13q
      obtain ⟨fs, hr, hrun, hended, hW, hsame⟩ := X13.leave (v := some (.int (1 : Int32))) (fun h => by rw [Bd.returns] at h; cases h)
      refine ⟨_, _, pre10 _ ?_, hrun, hended, _, _, rfl, ?_, ⟨_, rfl⟩, hW, hsame.mono (by decide) (by decide)⟩
      · show Steps p.tables e below (T8.setTop (mkF m 44 #[.val (.long q0), .second, .val (.int p1), .val (.ref wS), .unset, .unset, .unset, .unset] [(.int (lcmpW q0 (-9223372036854775808 : Int64)))])) _
        refine XS.ifNo X8.here hx rfl (hb hby at_44) rfl ((if0 _ _).trans (teq ((lw_eq _ _).mpr hc44_9)).2) ?_
        show Steps p.tables e below (T8.setTop (mkF m 47 #[.val (.long q0), .second, .val (.int p1), .val (.ref wS), .unset, .unset, .unset, .unset] [])) _
        refine XS.lloadN X8.here hx rfl (hb hby at_47) rfl ?_
        show Steps p.tables e below (T8.setTop (mkF m 48 #[.val (.long q0), .second, .val (.int p1), .val (.ref wS), .unset, .unset, .unset, .unset] [(.long q0)])) _
        refine XS.lconst X8.here hx rfl (hb hby at_48) ?_
        show Steps p.tables e below (T8.setTop (mkF m 49 #[.val (.long q0), .second, .val (.int p1), .val (.ref wS), .unset, .unset, .unset, .unset] [(.long (1 : Int64)), (.long q0)])) _
        refine XS.ladd X8.here hx rfl (hb hby at_49) rfl ?_
        show Steps p.tables e below (T8.setTop (mkF m 50 #[.val (.long q0), .second, .val (.int p1), .val (.ref wS), .unset, .unset, .unset, .unset] [(.long (q0 + (1 : Int64)))])) _
        refine XS.goto X8.here hx rfl (pc0 := 50) (pc' := 54) rfl (hb hby at_50) (by decide) (by decide) ?_
        show Steps p.tables e below (T8.setTop (mkF m 54 #[.val (.long q0), .second, .val (.int p1), .val (.ref wS), .unset, .unset, .unset, .unset] [(.long (q0 + (1 : Int64)))])) _
        refine XS.lstore X8.here hx rfl (hb hby at_54) rfl (l' := #[.val (.long q0), .second, .val (.int p1), .val (.ref wS), .val (.long (q0 + (1 : Int64))), .second, .unset, .unset]) rfl ?_
        show Steps p.tables e below (T8.setTop (mkF m 56 #[.val (.long q0), .second, .val (.int p1), .val (.ref wS), .val (.long (q0 + (1 : Int64))), .second, .unset, .unset] [])) _
        refine XS.aloadN X8.here hx rfl (hb hby at_56) rfl rfl ?_
        show Steps p.tables e below (T8.setTop (mkF m 57 #[.val (.long q0), .second, .val (.int p1), .val (.ref wS), .val (.long (q0 + (1 : Int64))), .second, .unset, .unset] [(.ref wS)])) _
        refine XS.lload X8.here hx rfl (hb hby at_57) rfl ?_
        show Steps p.tables e below (T8.setTop (mkF m 59 #[.val (.long q0), .second, .val (.int p1), .val (.ref wS), .val (.long (q0 + (1 : Int64))), .second, .unset, .unset] [(.long (q0 + (1 : Int64))), (.ref wS)])) _
        refine st11.trans ?_
        show Steps p.tables e below (T11.setTop (mkF m 62 #[.val (.long q0), .second, .val (.int p1), .val (.ref wS), .val (.long (q0 + (1 : Int64))), .second, .unset, .unset] [(.long (-(q0 + (1 : Int64))))])) _
        refine XS.lstore X11.here hx rfl (hb hby at_62) rfl (l' := #[.val (.long q0), .second, .val (.int p1), .val (.ref wS), .val (.long (q0 + (1 : Int64))), .second, .val (.long (-(q0 + (1 : Int64)))), .second]) rfl ?_
        show Steps p.tables e below (T11.setTop (mkF m 64 #[.val (.long q0), .second, .val (.int p1), .val (.ref wS), .val (.long (q0 + (1 : Int64))), .second, .val (.long (-(q0 + (1 : Int64)))), .second] [])) _
        refine XS.lload X11.here hx rfl (hb hby at_64) rfl ?_
        show Steps p.tables e below (T11.setTop (mkF m 66 #[.val (.long q0), .second, .val (.int p1), .val (.ref wS), .val (.long (q0 + (1 : Int64))), .second, .val (.long (-(q0 + (1 : Int64)))), .second] [(.long (-(q0 + (1 : Int64))))])) _
        refine XS.lconst X11.here hx rfl (hb hby at_66) ?_
        show Steps p.tables e below (T11.setTop (mkF m 67 #[.val (.long q0), .second, .val (.int p1), .val (.ref wS), .val (.long (q0 + (1 : Int64))), .second, .val (.long (-(q0 + (1 : Int64)))), .second] [(.long (0 : Int64)), (.long (-(q0 + (1 : Int64))))])) _
        refine XS.lload X11.here hx rfl (hb hby at_67) rfl ?_
        show Steps p.tables e below (T11.setTop (mkF m 69 #[.val (.long q0), .second, .val (.int p1), .val (.ref wS), .val (.long (q0 + (1 : Int64))), .second, .val (.long (-(q0 + (1 : Int64)))), .second] [(.long (q0 + (1 : Int64))), (.long (0 : Int64)), (.long (-(q0 + (1 : Int64))))])) _
        refine XS.lsub X11.here hx rfl (hb hby at_69) rfl ?_
        show Steps p.tables e below (T11.setTop (mkF m 70 #[.val (.long q0), .second, .val (.int p1), .val (.ref wS), .val (.long (q0 + (1 : Int64))), .second, .val (.long (-(q0 + (1 : Int64)))), .second] [(.long ((0 : Int64) - (q0 + (1 : Int64)))), (.long (-(q0 + (1 : Int64))))])) _
        refine XS.lcmp X11.here hx rfl (hb hby at_70) rfl ?_
        show Steps p.tables e below (T11.setTop (mkF m 71 #[.val (.long q0), .second, .val (.int p1), .val (.ref wS), .val (.long (q0 + (1 : Int64))), .second, .val (.long (-(q0 + (1 : Int64)))), .second] [(.int (lcmpW (-(q0 + (1 : Int64))) ((0 : Int64) - (q0 + (1 : Int64)))))])) _
        refine XS.ifNo X11.here hx rfl (hb hby at_71) rfl ((if0 _ _).trans (teq ((lw_eq _ _).mpr (own_zs (q0 + (1 : Int64))))).2) ?_
        show Steps p.tables e below (T11.setTop (mkF m 74 #[.val (.long q0), .second, .val (.int p1), .val (.ref wS), .val (.long (q0 + (1 : Int64))), .second, .val (.long (-(q0 + (1 : Int64)))), .second] [])) _
        refine XS.aloadN X11.here hx rfl (hb hby at_74) rfl rfl ?_
        show Steps p.tables e below (T11.setTop (mkF m 75 #[.val (.long q0), .second, .val (.int p1), .val (.ref wS), .val (.long (q0 + (1 : Int64))), .second, .val (.long (-(q0 + (1 : Int64)))), .second] [(.ref wS)])) _
        refine XS.lload X11.here hx rfl (hb hby at_75) rfl ?_
        show Steps p.tables e below (T11.setTop (mkF m 77 #[.val (.long q0), .second, .val (.int p1), .val (.ref wS), .val (.long (q0 + (1 : Int64))), .second, .val (.long (-(q0 + (1 : Int64)))), .second] [(.long (-(q0 + (1 : Int64)))), (.ref wS)])) _
        refine st13.trans ?_
        show Steps p.tables e below (T13.setTop (mkF m 80 #[.val (.long q0), .second, .val (.int p1), .val (.ref wS), .val (.long (q0 + (1 : Int64))), .second, .val (.long (-(q0 + (1 : Int64)))), .second] [(.long (-(-(q0 + (1 : Int64)))))])) _
        refine XS.lload X13.here hx rfl (hb hby at_80) rfl ?_
        show Steps p.tables e below (T13.setTop (mkF m 82 #[.val (.long q0), .second, .val (.int p1), .val (.ref wS), .val (.long (q0 + (1 : Int64))), .second, .val (.long (-(q0 + (1 : Int64)))), .second] [(.long (q0 + (1 : Int64))), (.long (-(-(q0 + (1 : Int64)))))])) _
        refine XS.lcmp X13.here hx rfl (hb hby at_82) rfl ?_
        show Steps p.tables e below (T13.setTop (mkF m 83 #[.val (.long q0), .second, .val (.int p1), .val (.ref wS), .val (.long (q0 + (1 : Int64))), .second, .val (.long (-(q0 + (1 : Int64)))), .second] [(.int (lcmpW (-(-(q0 + (1 : Int64)))) (q0 + (1 : Int64))))])) _
        refine XS.ifNo X13.here hx rfl (hb hby at_83) rfl ((if0 _ _).trans (teq ((lw_eq _ _).mpr (Int64.neg_neg : -(-(q0 + (1 : Int64))) = (q0 + (1 : Int64))))).2) ?_
        show Steps p.tables e below (T13.setTop (mkF m 86 #[.val (.long q0), .second, .val (.int p1), .val (.ref wS), .val (.long (q0 + (1 : Int64))), .second, .val (.long (-(q0 + (1 : Int64)))), .second] [])) _
        refine XS.iconst X13.here hx rfl (hb hby at_86) ?_
        show Steps p.tables e below (T13.setTop (mkF m 87 #[.val (.long q0), .second, .val (.int p1), .val (.ref wS), .val (.long (q0 + (1 : Int64))), .second, .val (.long (-(q0 + (1 : Int64)))), .second] [(.int (1 : Int32))])) _
        refine XS.goto X13.here hx rfl (pc0 := 87) (pc' := 91) rfl (hb hby at_87) (by decide) (by decide) ?_
        show Steps p.tables e below (T13.setTop (mkF m 91 #[.val (.long q0), .second, .val (.int p1), .val (.ref wS), .val (.long (q0 + (1 : Int64))), .second, .val (.long (-(q0 + (1 : Int64)))), .second] [(.int (1 : Int32))])) _
        exact retN X13 hx (t := .boolean) Bd.returns (by simp) (hb hby at_91) hr
      · show own_Q0 n0 _ T13.heap _
        rw [e13]
        exact ⟨rfl, N13⟩
    · obtain ⟨cq16, kq16, q16a, q16b, q16c⟩ := isOf hZ e8 P_E_wS
      obtain ⟨_, _, ⟨T15, L15, k15, n15⟩, -, X15, ⟨Lc15, hQ15, l15, y15, z15⟩, st15⟩ := X8.virtualBack hx (y := (⟨"com/example/nearai/nearai/Side", "signed", "(J)J"⟩ : MethodName)) (z := (⟨"com/example/nearai/nearai/Side", "signed", "(J)J"⟩ : MethodName)) hown (mvT hZ (hw _ (List.mem_of_getElem? (i := 3) rfl))) (mvT hZ (hw _ (List.mem_of_getElem? (i := 4) rfl))) (notFace_of_selects (args := #[]) (mvT hZ (hw _ (List.mem_of_getElem? (i := 6) rfl)))) (mvT hZ (hw _ (List.mem_of_getElem? (i := 6) rfl))) (mvT hZ (hw _ (List.mem_of_getElem? (i := 5) rfl))) (by decide) (backOf (W := 0) (rm1S l Z a0 hw [] q0 wB wS h0 n0 Z0 P_S_Side_BUY ne0 hc44_9) hZ (hw _ (List.mem_of_getElem? (i := 7) rfl)) (hw _ (List.mem_of_getElem? (i := 1) rfl)) (by decide) (by decide)) q16a q16c (g := (mkF m 59 #[.val (.long q0), .second, .val (.int p1), .val (.ref wS), .val (.long q0), .second, .unset, .unset] [(.long q0), (.ref wS)])) rfl (by rw [hml]; rfl) (Steps.refl _) (argsL := [(.long q0)]) (rest := []) (lenOf pd__J_J rfl) rfl (by show 2 * 0 + _ ≤ _; exact Nat.le_of_eq rfl) (hb hby at_59) (fun _ _ => ⟨rfl, e8, (by decide : 0 + 0 ≤ _), (by decide : 0 + 0 ≤ _)⟩)
      dsimp only [Pt.U, Pt.locs, Pt.cells, Pt.slots] at X15 l15 y15 z15 st15 hQ15
      subst l15 y15 z15
      obtain ⟨rfl, N15q, e15⟩ := hQ15
      have N15 := Fr.app N0 N15q
      obtain ⟨cq18, kq18, q18a, q18b, q18c⟩ := isOf hZ e15 P_E_wS
      obtain ⟨_, _, ⟨T17, L17, k17, n17⟩, -, X17, ⟨Lc17, hQ17, l17, y17, z17⟩, st17⟩ := X15.virtualBack hx (y := (⟨"com/example/nearai/nearai/Side", "signed", "(J)J"⟩ : MethodName)) (z := (⟨"com/example/nearai/nearai/Side", "signed", "(J)J"⟩ : MethodName)) hown (mvT hZ (hw _ (List.mem_of_getElem? (i := 3) rfl))) (mvT hZ (hw _ (List.mem_of_getElem? (i := 4) rfl))) (notFace_of_selects (args := #[]) (mvT hZ (hw _ (List.mem_of_getElem? (i := 6) rfl)))) (mvT hZ (hw _ (List.mem_of_getElem? (i := 6) rfl))) (mvT hZ (hw _ (List.mem_of_getElem? (i := 5) rfl))) (by decide) (backOf (W := 0) (rm1S l Z a0 hw [] (-q0) wB wS h0 n0 Z0 P_S_Side_BUY ne0 (own_negmin hc44_9)) hZ (hw _ (List.mem_of_getElem? (i := 7) rfl)) (hw _ (List.mem_of_getElem? (i := 1) rfl)) (by decide) (by decide)) q18a q18c (g := (mkF m 77 #[.val (.long q0), .second, .val (.int p1), .val (.ref wS), .val (.long q0), .second, .val (.long (-q0)), .second] [(.long (-q0)), (.ref wS)])) rfl (by rw [hml]; rfl) (Steps.refl _) (argsL := [(.long (-q0))]) (rest := []) (lenOf pd__J_J rfl) rfl (by show 2 * 0 + _ ≤ _; exact Nat.le_of_eq rfl) (hb hby at_77) (fun _ _ => ⟨rfl, e15, (by decide : 0 + 0 ≤ _), (by decide : 0 + 0 ≤ _)⟩)
      dsimp only [Pt.U, Pt.locs, Pt.cells, Pt.slots] at X17 l17 y17 z17 st17 hQ17
      subst l17 y17 z17
      obtain ⟨rfl, N17q, e17⟩ := hQ17
      have N17 := Fr.app N15 N17q
      obtain ⟨fs, hr, hrun, hended, hW, hsame⟩ := X17.leave (v := some (.int (1 : Int32))) (fun h => by rw [Bd.returns] at h; cases h)
      refine ⟨_, _, pre10 _ ?_, hrun, hended, _, _, rfl, ?_, ⟨_, rfl⟩, hW, hsame.mono (by decide) (by decide)⟩
      · show Steps p.tables e below (T8.setTop (mkF m 44 #[.val (.long q0), .second, .val (.int p1), .val (.ref wS), .unset, .unset, .unset, .unset] [(.int (lcmpW q0 (-9223372036854775808 : Int64)))])) _
        refine XS.ifYes X8.here hx rfl (pc0 := 44) (pc' := 53) rfl (hb hby at_44) rfl ((if0 _ _).trans (feq (fun qq => hc44_9 ((lw_eq _ _).mp qq))).2) (by decide) (by decide) ?_
        show Steps p.tables e below (T8.setTop (mkF m 53 #[.val (.long q0), .second, .val (.int p1), .val (.ref wS), .unset, .unset, .unset, .unset] [])) _
        refine XS.lloadN X8.here hx rfl (hb hby at_53) rfl ?_
        show Steps p.tables e below (T8.setTop (mkF m 54 #[.val (.long q0), .second, .val (.int p1), .val (.ref wS), .unset, .unset, .unset, .unset] [(.long q0)])) _
        refine XS.lstore X8.here hx rfl (hb hby at_54) rfl (l' := #[.val (.long q0), .second, .val (.int p1), .val (.ref wS), .val (.long q0), .second, .unset, .unset]) rfl ?_
        show Steps p.tables e below (T8.setTop (mkF m 56 #[.val (.long q0), .second, .val (.int p1), .val (.ref wS), .val (.long q0), .second, .unset, .unset] [])) _
        refine XS.aloadN X8.here hx rfl (hb hby at_56) rfl rfl ?_
        show Steps p.tables e below (T8.setTop (mkF m 57 #[.val (.long q0), .second, .val (.int p1), .val (.ref wS), .val (.long q0), .second, .unset, .unset] [(.ref wS)])) _
        refine XS.lload X8.here hx rfl (hb hby at_57) rfl ?_
        show Steps p.tables e below (T8.setTop (mkF m 59 #[.val (.long q0), .second, .val (.int p1), .val (.ref wS), .val (.long q0), .second, .unset, .unset] [(.long q0), (.ref wS)])) _
        refine st15.trans ?_
        show Steps p.tables e below (T15.setTop (mkF m 62 #[.val (.long q0), .second, .val (.int p1), .val (.ref wS), .val (.long q0), .second, .unset, .unset] [(.long (-q0))])) _
        refine XS.lstore X15.here hx rfl (hb hby at_62) rfl (l' := #[.val (.long q0), .second, .val (.int p1), .val (.ref wS), .val (.long q0), .second, .val (.long (-q0)), .second]) rfl ?_
        show Steps p.tables e below (T15.setTop (mkF m 64 #[.val (.long q0), .second, .val (.int p1), .val (.ref wS), .val (.long q0), .second, .val (.long (-q0)), .second] [])) _
        refine XS.lload X15.here hx rfl (hb hby at_64) rfl ?_
        show Steps p.tables e below (T15.setTop (mkF m 66 #[.val (.long q0), .second, .val (.int p1), .val (.ref wS), .val (.long q0), .second, .val (.long (-q0)), .second] [(.long (-q0))])) _
        refine XS.lconst X15.here hx rfl (hb hby at_66) ?_
        show Steps p.tables e below (T15.setTop (mkF m 67 #[.val (.long q0), .second, .val (.int p1), .val (.ref wS), .val (.long q0), .second, .val (.long (-q0)), .second] [(.long (0 : Int64)), (.long (-q0))])) _
        refine XS.lload X15.here hx rfl (hb hby at_67) rfl ?_
        show Steps p.tables e below (T15.setTop (mkF m 69 #[.val (.long q0), .second, .val (.int p1), .val (.ref wS), .val (.long q0), .second, .val (.long (-q0)), .second] [(.long q0), (.long (0 : Int64)), (.long (-q0))])) _
        refine XS.lsub X15.here hx rfl (hb hby at_69) rfl ?_
        show Steps p.tables e below (T15.setTop (mkF m 70 #[.val (.long q0), .second, .val (.int p1), .val (.ref wS), .val (.long q0), .second, .val (.long (-q0)), .second] [(.long ((0 : Int64) - q0)), (.long (-q0))])) _
        refine XS.lcmp X15.here hx rfl (hb hby at_70) rfl ?_
        show Steps p.tables e below (T15.setTop (mkF m 71 #[.val (.long q0), .second, .val (.int p1), .val (.ref wS), .val (.long q0), .second, .val (.long (-q0)), .second] [(.int (lcmpW (-q0) ((0 : Int64) - q0)))])) _
        refine XS.ifNo X15.here hx rfl (hb hby at_71) rfl ((if0 _ _).trans (teq ((lw_eq _ _).mpr (own_zs q0))).2) ?_
        show Steps p.tables e below (T15.setTop (mkF m 74 #[.val (.long q0), .second, .val (.int p1), .val (.ref wS), .val (.long q0), .second, .val (.long (-q0)), .second] [])) _
        refine XS.aloadN X15.here hx rfl (hb hby at_74) rfl rfl ?_
        show Steps p.tables e below (T15.setTop (mkF m 75 #[.val (.long q0), .second, .val (.int p1), .val (.ref wS), .val (.long q0), .second, .val (.long (-q0)), .second] [(.ref wS)])) _
        refine XS.lload X15.here hx rfl (hb hby at_75) rfl ?_
        show Steps p.tables e below (T15.setTop (mkF m 77 #[.val (.long q0), .second, .val (.int p1), .val (.ref wS), .val (.long q0), .second, .val (.long (-q0)), .second] [(.long (-q0)), (.ref wS)])) _
        refine st17.trans ?_
        show Steps p.tables e below (T17.setTop (mkF m 80 #[.val (.long q0), .second, .val (.int p1), .val (.ref wS), .val (.long q0), .second, .val (.long (-q0)), .second] [(.long (-(-q0)))])) _
        refine XS.lload X17.here hx rfl (hb hby at_80) rfl ?_
        show Steps p.tables e below (T17.setTop (mkF m 82 #[.val (.long q0), .second, .val (.int p1), .val (.ref wS), .val (.long q0), .second, .val (.long (-q0)), .second] [(.long q0), (.long (-(-q0)))])) _
        refine XS.lcmp X17.here hx rfl (hb hby at_82) rfl ?_
        show Steps p.tables e below (T17.setTop (mkF m 83 #[.val (.long q0), .second, .val (.int p1), .val (.ref wS), .val (.long q0), .second, .val (.long (-q0)), .second] [(.int (lcmpW (-(-q0)) q0))])) _
        refine XS.ifNo X17.here hx rfl (hb hby at_83) rfl ((if0 _ _).trans (teq ((lw_eq _ _).mpr (Int64.neg_neg : -(-q0) = q0))).2) ?_
        show Steps p.tables e below (T17.setTop (mkF m 86 #[.val (.long q0), .second, .val (.int p1), .val (.ref wS), .val (.long q0), .second, .val (.long (-q0)), .second] [])) _
        refine XS.iconst X17.here hx rfl (hb hby at_86) ?_
        show Steps p.tables e below (T17.setTop (mkF m 87 #[.val (.long q0), .second, .val (.int p1), .val (.ref wS), .val (.long q0), .second, .val (.long (-q0)), .second] [(.int (1 : Int32))])) _
        refine XS.goto X17.here hx rfl (pc0 := 87) (pc' := 91) rfl (hb hby at_87) (by decide) (by decide) ?_
        show Steps p.tables e below (T17.setTop (mkF m 91 #[.val (.long q0), .second, .val (.int p1), .val (.ref wS), .val (.long q0), .second, .val (.long (-q0)), .second] [(.int (1 : Int32))])) _
        exact retN X17 hx (t := .boolean) Bd.returns (by simp) (hb hby at_91) hr
      · show own_Q0 n0 _ T17.heap _
        rw [e17]
        exact ⟨rfl, N17⟩

set_option maxRecDepth 65536 in
set_option maxHeartbeats 40000000 in
theorem comes_1 {Post : Tables → Env → Array Value → State → Outcome → State → Prop} (hpost : ∀ tb e args s v u, (limb_1_1.after args s (.returned v) u = true ∧ limb_1_2.after args s (.returned v) u = true ∧ True) → FrameEnd s (.returned v) u (Jvm.fieldLocs frame_1_writes args s ++ Jvm.arrayLocs frame_1_arrays args s ++ Jvm.staticLocs frame_1_statics s) 0 0 → Post tb e args s (.returned v) u) :
    ArmFor flags0 classFile x code maxLocals ret World_1 tables_1 room_1 Calls_1 rest_1 Pre_1 Post := by
  intro l hfl _ _ p e ha hc hk s m args below hf hA hF happ hP
  obtain ⟨hcalls, hrest, hpre⟩ := hP
  obtain ⟨-, -, -, hnamed, -, -, -, hat⟩ := (Spec.applies_iff hf).mp happ
  obtain ⟨hg, hn⟩ := and_e (Cond.before_iff.mp (show (Jvm.Cond.and given_1 narrow_1).before args s = true from hpre))
  obtain ⟨g0, gr1⟩ := and_e hg
  obtain ⟨g1, g2⟩ := and_e gr1
  obtain ⟨k0, kr1⟩ := and_e hn
  obtain ⟨k1, kr2⟩ := and_e kr1
  obtain ⟨k2, k3⟩ := and_e kr2
  obtain ⟨w0, w1, rfl⟩ : ∃ w0 w1 : Value, args = #[w0, w1] := by
    have hs : args.size = 2 := by simpa [Cond.value, given_1] using g0
    obtain ⟨L⟩ := args
    match L, hs with
    | [w0, w1], _ => exact ⟨w0, w1, rfl⟩
  have hw := fun d (hd : d ∈ tables_1) => atoms_spec (ws := Jvm.Cond.code x code maxLocals ret :: tables_1) hat d (List.mem_cons_of_mem _ hd)
  have hfit : Fit s := fun {y c} hc i hi => by
    obtain ⟨ha, rfl⟩ := Array.getElem?_eq_some_iff.mp hc
    have q := List.all_eq_true.mp ((Array.all_eq_true_iff_forall_mem.mp hF) _ (Array.getElem_mem ha)) i (List.mem_range.mpr hi)
    simpa [Array.getElem?_eq_getElem hi] using q
  obtain ⟨i0, ei0⟩ := isL_v g1
  obtain rfl : w0 = (.long i0) := Option.some.inj ei0
  obtain ⟨i1, ei1⟩ := is_v g2
  obtain rfl : w1 = (.int i1) := Option.some.inj ei1
  obtain ⟨wB, eB⟩ := exa_v k0
  obtain ⟨wS, eS⟩ := exa_v k1
  have ne0 : wS ≠ wB := Fld.ne (own_fld eS (own_eqI k2)) (own_fld eB (own_eqI k3)) (by decide)
  obtain ⟨n, o, h1, h2, h3, _, L, rfl, ⟨rfl, N⟩, hq⟩ := rm0 l s _ hw tables_1 i0 i1 wB wS s.heap s.heap.size (Nat.le_refl _) (Sta.start eB (Or.inr ⟨(hw _ (List.mem_of_getElem? (i := 1) rfl)), (hw _ (List.mem_of_getElem? (i := 2) rfl))⟩)) (Sta.start eS (Or.inr ⟨(hw _ (List.mem_of_getElem? (i := 1) rfl)), (hw _ (List.mem_of_getElem? (i := 10) rfl))⟩)) (Exa.start eB k0) (Exa.start eS k1) ne0 p e ha hc hk s m _ below hf ((Spec.applies_iff_loose hf).mp happ).1 ⟨rfl, State.Warmed39.refl s, rfl⟩ trivial
  refine ⟨n, _, h1, h2, h3, hpost _ _ _ _ _ _ ⟨Cond.after_iff.mpr rfl, Cond.after_iff.mpr (eq_i res_at (Term.int_eval (1)) rfl), trivial⟩ ⟨hq.1, hq.2.1, (hq.2.2.sift fun y hy => Or.inr (N y hy)).mono (by decide) (by decide)⟩⟩
theorem main_1_1 : Claimed_1_1 := comes_1 fun _ _ _ _ _ _ h hF => ⟨h.1, hF⟩
theorem main_1_2 : Claimed_1_2 := comes_1 fun _ _ _ _ _ _ h hF => ⟨h.2.1, hF⟩
end Jvm.Pilot.@@N@@
namespace Jvm.Pilot.@@N@@
open Jvm Jvm.ClassFile Sem Op Lib Jvm.Free Jvm.Stand Jvm.Pilot.@@N@@.Jvm.D
/-! MADE BY PROGRAM (witnessworld.py) out of the Statement's table words and the real class files: 13 classes; the members and pool entries that the words name. The judged class is class 1, her method 1. -/
namespace start1
open Jvm.ClassFile
def u (s : String) : CpInfo := .utf8 (stringToUtf16 s)
/-- a pool by its gaps: so many unusable entries, then the entry; so many at the end -/
def gap : Nat → List CpInfo → List CpInfo
  | 0, r => r
  | n + 1, r => .unusable :: gap n r
def poolList (es : List (Nat × CpInfo)) (last : Nat) : List CpInfo := es.foldr (fun e r => gap e.1 (e.2 :: r)) (gap last [])
def pool (es : List (Nat × CpInfo)) (last : Nat) : Array CpInfo := ⟨poolList es last⟩
def fileOf (pool : Array CpInfo) (this : Nat) (attrs : Array Attribute := #[]) (ms : Array MethodInfo := #[]) (fl : Nat := 33) (sup : Nat := 0) (ifs : Array Nat := #[]) (fds : Array FieldInfo := #[]) : ClassFile where
  minorVersion := 0
  majorVersion := 65
  constantPool := pool
  accessFlags := fl
  thisClass := this
  superClass := sup
  interfaces := ifs
  fields := fds
  methods := ms
  attributes := attrs
def plain (name : String) (sup : Option ClassId) : Class where
  name := name
  kind := .ordinary
  loader := none
  accessFlags := 33
  super := sup
  interfaces := #[]
  cf := none
  fields := #[]
  methods := #[]
  instanceTypes := #[]
  staticTypes := #[]
  resolved := #[]
  callSites := []
  init := .initialized
  statics := none
  mirror := none

def pool0 : Array CpInfo := pool [(5, u "<init>"), (0, u "()V"), (1, .class_ 10), (1, u "java/lang/Object")] 113

def k0m0 : Method := { name := "<init>", desc := "()V", sig := { parameters := [], returnType := none }, accessFlags := 1, code := none }
/-- java/lang/Object -/
def k0 : Class := { plain "java/lang/Object" none with
  accessFlags := 33
  interfaces := #[]
  cf := some (fileOf pool0 8 #[] #[{ accessFlags := 1, nameIndex := 5, descriptorIndex := 6, attributes := #[] }] 33 0 #[] #[])
  fields := #[]
  methods := #[k0m0]
  instanceTypes := #[]
  staticTypes := #[]
  resolved := Array.replicate 124 none
  statics := none }

def pool1 : Array CpInfo := pool [(2, .class_ 4), (1, u "java/lang/Object"), (0, u "<init>"), (0, u "()V"), (0, .fieldref 8 9), (0, .class_ 10), (0, .nameAndType 11 12), (0, u "com/example/nearai/nearai/Side"), (0, u "SELL"), (0, u "Lcom/example/nearai/nearai/Side;"), (0, .fieldref 8 14), (0, .nameAndType 15 12), (0, u "BUY"), (0, .methodref 8 17), (0, .nameAndType 18 19), (0, u "signed"), (0, u "(J)J"), (2, .long 9223372036854775808), (1, .class_ 25), (0, u "com/example/nearai/nearai/SideSignedPinLaw"), (2, u "law"), (0, u "(JI)Z")] 3

def k1m0 : Method := { name := "<init>", desc := "()V", sig := { parameters := [], returnType := none }, accessFlags := 1, code := none }
def k1c1 : Code := { maxStack := 6, maxLocals := 8, code := code, exceptionTable := #[], attributes := #[] }
def k1m1 : Method := { name := "law", desc := "(JI)Z", sig := { parameters := [.long, .int], returnType := some .boolean }, accessFlags := 9, code := some k1c1 }
/-- com/example/nearai/nearai/SideSignedPinLaw -/
def k1 : Class := { plain "com/example/nearai/nearai/SideSignedPinLaw" (some 0) with
  accessFlags := 49
  interfaces := #[]
  cf := some (fileOf pool1 24 #[] #[{ accessFlags := 1, nameIndex := 5, descriptorIndex := 6, attributes := #[] }, { accessFlags := 9, nameIndex := 28, descriptorIndex := 29, attributes := #[] }] 49 2 #[] #[])
  fields := #[]
  methods := #[k1m0, k1m1]
  instanceTypes := #[]
  staticTypes := #[]
  resolved := Array.replicate 33 none
  statics := none }

def pool2 : Array CpInfo := pool [(1, .class_ 2), (0, u "java/lang/constant/Constable"), (0, .class_ 4), (0, u "java/lang/Object")] 6

/-- java/lang/constant/Constable -/
def k2 : Class := { plain "java/lang/constant/Constable" (some 0) with
  accessFlags := 1537
  interfaces := #[]
  cf := some (fileOf pool2 1 #[] #[] 1537 3 #[] #[])
  fields := #[]
  methods := #[]
  instanceTypes := #[]
  staticTypes := #[]
  resolved := Array.replicate 11 none
  statics := none }

def pool3 : Array CpInfo := pool [(1, .class_ 2), (0, u "java/lang/Comparable"), (0, .class_ 4), (0, u "java/lang/Object")] 7

/-- java/lang/Comparable -/
def k3 : Class := { plain "java/lang/Comparable" (some 0) with
  accessFlags := 1537
  interfaces := #[]
  cf := some (fileOf pool3 1 #[] #[] 1537 3 #[] #[])
  fields := #[]
  methods := #[]
  instanceTypes := #[]
  staticTypes := #[]
  resolved := Array.replicate 12 none
  statics := none }

def pool4 : Array CpInfo := pool [(1, .class_ 2), (0, u "java/io/Serializable"), (0, .class_ 4), (0, u "java/lang/Object")] 2

/-- java/io/Serializable -/
def k4 : Class := { plain "java/io/Serializable" (some 0) with
  accessFlags := 1537
  interfaces := #[]
  cf := some (fileOf pool4 1 #[] #[] 1537 3 #[] #[])
  fields := #[]
  methods := #[]
  instanceTypes := #[]
  staticTypes := #[]
  resolved := Array.replicate 7 none
  statics := none }

def pool5 : Array CpInfo := pool [(2, .class_ 4), (1, u "java/lang/Enum"), (0, u "name"), (0, u "Ljava/lang/String;"), (2, u "ordinal"), (0, u "I"), (1, .class_ 14), (1, u "java/lang/Object"), (4, u "hash"), (86, .class_ 108), (1, u "java/lang/Enum$EnumDesc"), (2, .class_ 112), (0, u "java/lang/constant/Constable"), (0, .class_ 114), (0, u "java/lang/Comparable"), (0, .class_ 116), (0, u "java/io/Serializable")] 87

/-- java/lang/Enum -/
def k5 : Class := { plain "java/lang/Enum" (some 0) with
  accessFlags := 1057
  interfaces := #[2, 3, 4]
  cf := some (fileOf pool5 2 #[.nestMembers #[106]] #[] 1057 12 #[111, 113, 115] #[{ accessFlags := 18, nameIndex := 5, descriptorIndex := 6, attributes := #[] }, { accessFlags := 18, nameIndex := 9, descriptorIndex := 10, attributes := #[] }, { accessFlags := 2, nameIndex := 19, descriptorIndex := 10, attributes := #[] }])
  fields := #[{ name := "name", type := (.object "java/lang/String"), accessFlags := 18, slot := 0, constantValue := 0 }, { name := "ordinal", type := .int, accessFlags := 18, slot := 1, constantValue := 0 }, { name := "hash", type := .int, accessFlags := 2, slot := 2, constantValue := 0 }]
  methods := #[]
  instanceTypes := #[(.object "java/lang/String"), .int, .int]
  staticTypes := #[]
  resolved := Array.replicate 204 none
  statics := none }

def pool6 : Array CpInfo := pool [(1, .class_ 2), (0, u "com/example/nearai/nearai/Side"), (0, .fieldref 1 4), (0, .nameAndType 5 6), (0, u "BUY"), (0, u "Lcom/example/nearai/nearai/Side;"), (2, u "SELL"), (2, u "$VALUES"), (0, u "[Lcom/example/nearai/nearai/Side;"), (6, .class_ 22), (1, u "java/lang/Enum"), (8, u "code"), (0, u "Ljava/lang/String;"), (0, .methodref 34 35), (0, .class_ 36), (0, .nameAndType 37 38), (0, u "java/lang/Math"), (0, u "negateExact"), (0, u "(J)J"), (24, u "signed")] 5

def k6c0 : Code := { maxStack := 2, maxLocals := 3, code := prog_39_method_6_code, exceptionTable := #[], attributes := #[] }
def k6m0 : Method := { name := "signed", desc := "(J)J", sig := { parameters := [.long], returnType := some .long }, accessFlags := 1, code := some k6c0 }
/-- com/example/nearai/nearai/Side -/
def k6 : Class := { plain "com/example/nearai/nearai/Side" (some 5) with
  accessFlags := 16433
  interfaces := #[]
  cf := some (fileOf pool6 1 #[] #[{ accessFlags := 1, nameIndex := 63, descriptorIndex := 38, attributes := #[] }] 16433 20 #[] #[{ accessFlags := 16409, nameIndex := 5, descriptorIndex := 6, attributes := #[] }, { accessFlags := 16409, nameIndex := 9, descriptorIndex := 6, attributes := #[] }, { accessFlags := 18, nameIndex := 31, descriptorIndex := 32, attributes := #[] }, { accessFlags := 4122, nameIndex := 12, descriptorIndex := 13, attributes := #[] }])
  fields := #[{ name := "BUY", type := (.object "com/example/nearai/nearai/Side"), accessFlags := 16409, slot := 0, constantValue := 0 }, { name := "SELL", type := (.object "com/example/nearai/nearai/Side"), accessFlags := 16409, slot := 1, constantValue := 0 }, { name := "code", type := (.object "java/lang/String"), accessFlags := 18, slot := 3, constantValue := 0 }, { name := "$VALUES", type := (.array (.object "com/example/nearai/nearai/Side")), accessFlags := 4122, slot := 2, constantValue := 0 }]
  methods := #[k6m0]
  instanceTypes := #[(.object "java/lang/String"), .int, .int, (.object "java/lang/String")]
  staticTypes := #[(.object "com/example/nearai/nearai/Side"), (.object "com/example/nearai/nearai/Side"), (.array (.object "com/example/nearai/nearai/Side"))]
  resolved := Array.replicate 69 none
  statics := some 0 }

def pool7 : Array CpInfo := pool [(1, .class_ 2), (0, u "java/lang/Math"), (1, .class_ 6), (1, u "java/lang/Object"), (0, u "<init>"), (0, u "()V"), (89, .class_ 100), (1, u "java/lang/Math$RandomNumberGeneratorHolder"), (24, u "(J)J"), (2, .long 9223372036854775808), (43, u "negativeZeroFloatBits"), (0, u "J"), (2, u "negativeZeroDoubleBits"), (68, u "$assertionsDisabled"), (0, u "Z"), (91, u "twoToTheDoubleScaleDown"), (0, u "D"), (4, u "twoToTheDoubleScaleUp"), (9, u "E"), (3, u "PI"), (2, u "TAU"), (2, u "DEGREES_TO_RADIANS"), (0, u "RADIANS_TO_DEGREES"), (38, u "negateExact")] 55

def k7m0 : Method := { name := "<init>", desc := "()V", sig := { parameters := [], returnType := none }, accessFlags := 2, code := none }
def k7c1 : Code := { maxStack := 4, maxLocals := 2, code := jdk_29_method_42_code, exceptionTable := #[], attributes := #[] }
def k7m1 : Method := { name := "negateExact", desc := "(J)J", sig := { parameters := [.long], returnType := some .long }, accessFlags := 9, code := some k7c1 }
/-- java/lang/Math -/
def k7 : Class := { plain "java/lang/Math" (some 0) with
  accessFlags := 49
  interfaces := #[]
  cf := some (fileOf pool7 1 #[.nestMembers #[98]] #[{ accessFlags := 2, nameIndex := 7, descriptorIndex := 8, attributes := #[] }, { accessFlags := 9, nameIndex := 404, descriptorIndex := 125, attributes := #[] }] 49 4 #[] #[{ accessFlags := 25, nameIndex := 354, descriptorIndex := 339, attributes := #[] }, { accessFlags := 25, nameIndex := 358, descriptorIndex := 339, attributes := #[] }, { accessFlags := 25, nameIndex := 361, descriptorIndex := 339, attributes := #[] }, { accessFlags := 26, nameIndex := 364, descriptorIndex := 339, attributes := #[] }, { accessFlags := 26, nameIndex := 365, descriptorIndex := 339, attributes := #[] }, { accessFlags := 26, nameIndex := 172, descriptorIndex := 173, attributes := #[] }, { accessFlags := 26, nameIndex := 176, descriptorIndex := 173, attributes := #[] }, { accessFlags := 8, nameIndex := 344, descriptorIndex := 339, attributes := #[] }, { accessFlags := 8, nameIndex := 338, descriptorIndex := 339, attributes := #[] }, { accessFlags := 4120, nameIndex := 245, descriptorIndex := 246, attributes := #[] }])
  fields := #[{ name := "E", type := .double, accessFlags := 25, slot := 0, constantValue := 0 }, { name := "PI", type := .double, accessFlags := 25, slot := 1, constantValue := 0 }, { name := "TAU", type := .double, accessFlags := 25, slot := 2, constantValue := 0 }, { name := "DEGREES_TO_RADIANS", type := .double, accessFlags := 26, slot := 3, constantValue := 0 }, { name := "RADIANS_TO_DEGREES", type := .double, accessFlags := 26, slot := 4, constantValue := 0 }, { name := "negativeZeroFloatBits", type := .long, accessFlags := 26, slot := 5, constantValue := 0 }, { name := "negativeZeroDoubleBits", type := .long, accessFlags := 26, slot := 6, constantValue := 0 }, { name := "twoToTheDoubleScaleUp", type := .double, accessFlags := 8, slot := 7, constantValue := 0 }, { name := "twoToTheDoubleScaleDown", type := .double, accessFlags := 8, slot := 8, constantValue := 0 }, { name := "$assertionsDisabled", type := .boolean, accessFlags := 4120, slot := 9, constantValue := 0 }]
  methods := #[k7m0, k7m1]
  instanceTypes := #[]
  staticTypes := #[.double, .double, .double, .double, .double, .long, .long, .double, .double, .boolean]
  resolved := Array.replicate 460 none
  statics := none }

def pool8 : Array CpInfo := pool [(1, u "java/lang/Cloneable"), (0, .class_ 1), (0, u "java/lang/Object"), (0, .class_ 3)] 3

/-- java/lang/Cloneable -/
def k8 : Class := { plain "java/lang/Cloneable" (some 0) with
  accessFlags := 1537
  interfaces := #[]
  cf := some (fileOf pool8 2 #[] #[] 1537 4 #[] #[])
  fields := #[]
  methods := #[]
  instanceTypes := #[]
  staticTypes := #[]
  resolved := Array.replicate 8 none
  statics := none }

/-- the primitive byte -/
def k9 : Class := { plain "byte" none with kind := .primitive 'B', accessFlags := 0x411 }
/-- [B -/
def k10 : Class := { plain "[B" (some 0) with kind := .array 9 .byte, interfaces := #[8, 4], accessFlags := 1041 }

/-- the primitive int -/
def k11 : Class := { plain "int" none with kind := .primitive 'I', accessFlags := 0x411 }
/-- [I -/
def k12 : Class := { plain "[I" (some 0) with kind := .array 11 .int, interfaces := #[8, 4], accessFlags := 1041 }

def heap : Heap := #[{ cls := 6, slots := #[.ref 1, .ref 2, .null], vm := .statics 6 },
  { cls := 6, slots := #[.null, .int 0, .int 0, .null], vm := .none },
  { cls := 6, slots := #[.null, .int 1, .int 0, .null], vm := .none }]
def classes : Array Class := #[k0, k1, k2, k3, k4, k5, k6, k7, k8, k9, k10, k11, k12]
def interned : List (Array UInt16 × Addr) := []
def slotsUsed : Nat := 11
def theMethod : MethodId := ⟨1, 1⟩
def args0 : Array Value := #[.long 5, .int 1]
def aboutOver (below : List Frame) : State where
  vm := { classes := classes, interned := interned.toArray }
  heap := heap
  slotsUsed := slotsUsed
  threads := #[{ frames := .invoking theMethod args0 :: below }]
def below0 : List Frame := [.native { method := ⟨0, 0⟩, args := #[] }]
def about1 : State := aboutOver below0
def p0 : Program := .bare "" "" ""
def e0 : Env := launch0.env 0 0 0
theorem w_frames : about1.frames = Frame.invoking theMethod args0 :: below0 := rfl
set_option maxRecDepth 65536 in
theorem w_args : argsFit about1.vm theMethod args0 = true := by decide +kernel
set_option maxRecDepth 65536 in
theorem w_heap : heapFits about1 = true := by decide +kernel
set_option maxRecDepth 65536 in
theorem w_runnable : about1.curStatus? = some .runnable := by decide +kernel
set_option maxRecDepth 65536 in
theorem w_alone : about1.alone = true := by decide +kernel
set_option maxRecDepth 65536 in
theorem w_named : about1.methodNamed? x = some theMethod := by decide +kernel
set_option maxRecDepth 65536 in
theorem w_hears : about1.hears theMethod below0 = true := by decide +kernel
set_option maxRecDepth 65536 in
theorem w_ripe : about1.ripe theMethod args0 below0 = true := by decide +kernel
theorem w_running : about1.status = .running := rfl
set_option maxRecDepth 65536 in
theorem w_room : about1.hasRoom e0.platform room_1 = true :=
  launch0.hasRoom_least _ room_1 (by decide +kernel) (by decide +kernel) (by decide +kernel) (by decide +kernel) (by decide +kernel) (by decide +kernel)
theorem allAtoms_all (ts : List Jvm.Cond) (a : Array Jvm.Value) (st : Jvm.State) : (allAtoms ts).before a st = ts.all (fun c => c.before a st) := by
  induction ts with
  | nil => rfl
  | cons c t ih =>
    show (Jvm.Cond.and c (allAtoms t)).before a st = _
    rw [Jvm.Cond.before_and, ih, List.all_cons]
def words1 : List Jvm.Cond := Jvm.Cond.code x code maxLocals ret :: tables_1
/-- a 'code' word, met by the world's own term for the bytes: nothing is compared byte by byte -/
theorem code_word {y : MethodName} {bytes : ByteArray} {mx : Nat} {rt : Option FieldType} {a : Array Value} {s : State} {m : MethodId} {meth : Method} {c : Code} (h1 : s.methodNamed? y = some m) (h2 : s.vm.method? m = some meth) (h3 : meth.code = some c) (h4 : c.code = bytes)
    (h5 : (c.maxLocals == mx && c.exceptionTable.isEmpty && decide (c.maxStack ≤ mostOperands) && decide (meth.sig.returnType = rt) && !meth.locks && decide (parseMethodDescriptor y.desc = some meth.sig)) = true) : (Jvm.Cond.code y bytes mx rt).before a s = true := by
  simp only [Bool.and_eq_true, beq_iff_eq, Bool.not_eq_true', decide_eq_true_eq] at h5
  obtain ⟨⟨⟨⟨⟨g1, g2⟩, g3⟩, g4⟩, g5⟩, g6⟩ := h5
  simp [Cond.before, Cond.holds, Cond.value, h1, h2, h3, h4, g1, g2, g3, g4, g5, g6]
def isCode : Jvm.Cond → Bool
  | .code _ _ _ _ => true
  | _ => false
theorem all_split {L : List Jvm.Cond} {P : Jvm.Cond → Bool} (h1 : L.all (fun c => isCode c || P c) = true) (h2 : ∀ c ∈ L.filter isCode, P c = true) : L.all P = true := by
  refine List.all_eq_true.mpr fun c hc => ?_
  have h := List.all_eq_true.mp h1 c hc
  rcases Bool.eq_false_or_eq_true (isCode c) with hi | hi
  · exact h2 c (List.mem_filter.mpr ⟨hc, hi⟩)
  · simpa [hi] using h
set_option maxRecDepth 65536 in
theorem w_c0 : (Jvm.Cond.code x code maxLocals ret).before args0 about1 = true := code_word (m := ⟨1, 1⟩) (meth := k1m1) (c := k1c1) (by decide +kernel) rfl rfl rfl (by decide +kernel)
set_option maxRecDepth 65536 in
theorem w_c1 : (Jvm.Cond.code ({ cls := "com/example/nearai/nearai/Side", name := "signed", desc := "(J)J" } : Jvm.MethodName) prog_39_method_6_code (3 : Nat) (Option.some Jvm.ClassFile.FieldType.long)).before args0 about1 = true := code_word (m := ⟨6, 0⟩) (meth := k6m0) (c := k6c0) (by decide +kernel) rfl rfl rfl (by decide +kernel)
set_option maxRecDepth 65536 in
theorem w_c2 : (Jvm.Cond.code ({ cls := "java/lang/Math", name := "negateExact", desc := "(J)J" } : Jvm.MethodName) jdk_29_method_42_code (2 : Nat) (Option.some Jvm.ClassFile.FieldType.long)).before args0 about1 = true := code_word (m := ⟨7, 1⟩) (meth := k7m1) (c := k7c1) (by decide +kernel) rfl rfl rfl (by decide +kernel)
def codes1 : List Jvm.Cond := [Jvm.Cond.code x code maxLocals ret, Jvm.Cond.code ({ cls := "com/example/nearai/nearai/Side", name := "signed", desc := "(J)J" } : Jvm.MethodName) prog_39_method_6_code (3 : Nat) (Option.some Jvm.ClassFile.FieldType.long), Jvm.Cond.code ({ cls := "java/lang/Math", name := "negateExact", desc := "(J)J" } : Jvm.MethodName) jdk_29_method_42_code (2 : Nat) (Option.some Jvm.ClassFile.FieldType.long)]
set_option maxRecDepth 65536 in
theorem codes_eq : words1.filter isCode = codes1 := rfl
theorem w_codes : ∀ c ∈ words1.filter isCode, c.before args0 about1 = true := by
  rw [codes_eq]
  intro c hc
  simp only [codes1, List.mem_cons, List.not_mem_nil, or_false] at hc
  rcases hc with rfl | rfl | rfl
  · exact w_c0
  · exact w_c1
  · exact w_c2
set_option maxRecDepth 65536 in
theorem w_t1 : words1.all (fun c => isCode c || c.before args0 about1) = true := by decide +kernel
theorem w_tables : (allAtoms (Jvm.Cond.code x code maxLocals ret :: tables_1)).before args0 about1 = true := by
  rw [allAtoms_all]
  show words1.all (fun c => c.before args0 about1) = true
  refine all_split ?_ w_codes
  rw [w_t1]
set_option maxRecDepth 65536 in
theorem w_case : (Jvm.Cond.and given_1 narrow_1).before args0 about1 = true := by decide +kernel
theorem w_applies : (headSpec (Jvm.Cond.code x code maxLocals ret :: tables_1) room_1).applies x e0.platform about1 = true :=
  (Spec.applies_iff w_frames).mpr ⟨w_running, w_runnable, w_alone, w_named, w_hears, w_ripe, w_room, w_tables⟩
theorem atStart : AtStart classFile x code maxLocals ret World_1 tables_1 room_1 Calls_1 rest_1 Pre_1 launch0 p0 e0 about1 theMethod args0 below0 :=
  ⟨lists_1, trivial, launch0.admits_env _ _ _, launch0.least_env, fairChoices_fair.cas, fairChoices_fair.clock, w_frames, w_args, w_heap, w_applies, trivial, trivial, w_case⟩
end start1
theorem witness_1 : WitnessClaimed_1 := ⟨start1.p0, start1.e0, start1.about1, start1.theMethod, start1.args0, start1.below0, start1.atStart⟩
end Jvm.Pilot.@@N@@
