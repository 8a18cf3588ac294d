import JvmDerived
import JvmDerived.Pilot.@@N@@Statement
import JvmDerived.Pilot.@@N@@Code
set_option linter.unusedVariables false
set_option linter.unusedSimpArgs false
namespace Jvm.RoadKit
open Sem ClassFile Op Lib Jvm.Stand Jvm.Free Jvm.LawKit
section New
variable {p : Program} {l : Launch} {e : Env} {R : Room} {s : State} {m : MethodId} {args : Array Value} {below : List Frame} {meth : Method} {c : Code} {T : State} {locs : List Loc} {cells slots : Nat}
theorem retI (X : Stand p l e R s m args below meth c T locs cells slots) (hx : p.tables.exec = Jvm.exec) {pc : Nat} {Ls : Array Slot} {z : Int32} {rest : List Value} (hret : meth.sig.returnType = some .int) (hd : decode c.code pc = .ok (.ireturn, 1)) {fs : List Frame}
    (hl : ∀ (f : JFrame) (acts : List Action), f.method = m → f.locked = none → f.entered = [] → (doReturn e (T.setTop f) acts (some (.int z))).1 = T.setFrames fs) : Steps p.tables e below (T.setTop (mkF m pc Ls (.int z :: rest))) (T.setFrames fs) := by
  have hm' : T.vm.method? m = some meth := X.method'
  have hn : narrow .int (.int z) = .int z := rfl
  show Steps p.tables e below (T.setTop { method := m, pc := pc, locals := Ls, stack := _ :: rest, locked := none }) _
  jvm_step X.here [X.here.top, hx, hd, hm', hret, hn]
  first | (intro acts; rw [hl _ acts rfl rfl rfl]) | rw [hl _ _ rfl rfl rfl]
  exact Steps.refl _
end New
end Jvm.RoadKit
namespace Jvm.Pilot.@@N@@
open Jvm Jvm.ClassFile Sem Op Lib Jvm.Free Jvm.Stand Jvm.LawKit Jvm.RoadKit Bundle Jvm.Pilot.@@N@@.Jvm.D
def own_QP (r : Option Value) (h0 : Heap) (n0 : Nat) (v : Option Value) (h : Heap) (L : List Loc) : Prop := v = r ∧ Fr n0 L ∧ h = h0
def own_Q0 (n0 : Nat) (v : Option Value) (h : Heap) (L : List Loc) : Prop := v = some (.int 1) ∧ Fr n0 L
section OwnWords
variable {args : Array Value} {s : State}
theorem own_eqI {t : Term} {k : Int32} (h : (Jvm.Cond.eq t (.int k)).value args s none s [] = some true) : t.eval args s none [] s = some (.int k) := by
  obtain ⟨x, y, h1, h2, h3, h4⟩ := cmp_v (Or.inl h)
  obtain rfl : y = .int k := (Option.some.inj h2).symm
  obtain ⟨z, rfl⟩ := h4
  have q := gotT (Cond.eq_ints h1 h2) h
  rw [h1, q]
theorem own_eqR {t u : Term} {b : Addr} (h : (Jvm.Cond.eq t u).value args s none s [] = some true) (hu : u.eval args s none [] s = some (.ref b)) : t.eval args s none [] s = some (.ref b) := by
  obtain ⟨x, y, h1, h2, h3, h4⟩ := cmp_v (Or.inl h)
  obtain rfl : y = .ref b := Option.some.inj (h2.symm.trans hu)
  have q := gotT (eq_R h1 h2 h4.2 h4.1) h
  rw [h1, q]
theorem own_fld {t : Term} {C n d : String} {a : Addr} {v : Value} (ht : t.eval args s none [] s = some (.ref a)) (h : (Term.field t C n d).eval args s none [] s = some v) : Fld s s.heap a C n d v := Fld.start ((fld_at ht).symm.trans h)
end OwnWords
theorem own_staKeep {Z : State} {h h' : Heap} {C n d : String} {v : Value} {ws : List Addr} (F : Sta Z h C n d v) (K : Keep h h' ws) (q : ∀ x ∈ ws, ∀ cell : Cell, h[x]? = some cell → cell.vm.isStatics = false) : Sta Z h' C n d v := by
  obtain ⟨cf, i, k, f, st, cell, h1, h2, h3, h4, h5, h6, h7⟩ := F
  refine ⟨cf, i, k, f, st, cell, h1, h2, h3, h4, K.2.1 st cell h5 (fun z => ?_), h6, h7⟩
  rw [q st z cell h5] at h6; cases h6
theorem own_w0_16 {c : Int64} (hc : 0 < c.toInt) (h : (c - (c / (16 : Int64)) * (16 : Int64)) = (0 : Int64)) : (((c - (1 : Int64)) / ((16 : Int32).toInt64)) + (1 : Int64)) = (c / (16 : Int64)) := by
  have r := rng64 c
  have e1 : ((16 : Int32).toInt64) = (16 : Int64) := by decide
  have e2 := (c_ldiv c (16 : Int64) 16 (by decide) (by decide)).1 (by omega)
  have e3 := (c_lrem c (16 : Int64) 16 (by decide)).1 (by omega)
  rw [h] at e3
  have z0 : (0 : Int64).toInt = 0 := rfl
  have z1 : (1 : Int64).toInt = 1 := rfl
  have e4 := c_lsub c (1 : Int64)
  have r4 := rng64 (c - (1 : Int64))
  have e5 := (c_ldiv (c - (1 : Int64)) (16 : Int64) 16 (by decide) (by decide)).1 (by omega)
  have e6 := c_ladd ((c - (1 : Int64)) / (16 : Int64)) (1 : Int64)
  have r6 := rng64 (((c - (1 : Int64)) / (16 : Int64)) + (1 : Int64))
  rw [e1]
  refine Int64.toInt_inj.mp ?_
  omega
theorem own_w1_16 {c : Int64} (hc : 0 < c.toInt) (h : ¬ ((c - (c / (16 : Int64)) * (16 : Int64)) = (0 : Int64))) : (((c - (1 : Int64)) / ((16 : Int32).toInt64)) + (1 : Int64)) = ((c / (16 : Int64)) + (1 : Int64)) := by
  have r := rng64 c
  have e1 : ((16 : Int32).toInt64) = (16 : Int64) := by decide
  have e2 := (c_ldiv c (16 : Int64) 16 (by decide) (by decide)).1 (by omega)
  have e3 := (c_lrem c (16 : Int64) 16 (by decide)).1 (by omega)
  have z0 : (0 : Int64).toInt = 0 := rfl
  have z1 : (1 : Int64).toInt = 1 := rfl
  have h' : ¬ (c - (c / (16 : Int64)) * (16 : Int64)).toInt = 0 := fun q => h (Int64.toInt_inj.mp (q.trans z0.symm))
  have e4 := c_lsub c (1 : Int64)
  have r4 := rng64 (c - (1 : Int64))
  have e5 := (c_ldiv (c - (1 : Int64)) (16 : Int64) 16 (by decide) (by decide)).1 (by omega)
  have e6 : ((c - (1 : Int64)) / (16 : Int64)) = (c / (16 : Int64)) := Int64.toInt_inj.mp (by omega)
  rw [e1, e6]
theorem own_w0_64 {c : Int64} (hc : 0 < c.toInt) (h : (c - (c / (64 : Int64)) * (64 : Int64)) = (0 : Int64)) : (((c - (1 : Int64)) / ((64 : Int32).toInt64)) + (1 : Int64)) = (c / (64 : Int64)) := by
  have r := rng64 c
  have e1 : ((64 : Int32).toInt64) = (64 : Int64) := by decide
  have e2 := (c_ldiv c (64 : Int64) 64 (by decide) (by decide)).1 (by omega)
  have e3 := (c_lrem c (64 : Int64) 64 (by decide)).1 (by omega)
  rw [h] at e3
  have z0 : (0 : Int64).toInt = 0 := rfl
  have z1 : (1 : Int64).toInt = 1 := rfl
  have e4 := c_lsub c (1 : Int64)
  have r4 := rng64 (c - (1 : Int64))
  have e5 := (c_ldiv (c - (1 : Int64)) (64 : Int64) 64 (by decide) (by decide)).1 (by omega)
  have e6 := c_ladd ((c - (1 : Int64)) / (64 : Int64)) (1 : Int64)
  have r6 := rng64 (((c - (1 : Int64)) / (64 : Int64)) + (1 : Int64))
  rw [e1]
  refine Int64.toInt_inj.mp ?_
  omega
theorem own_w1_64 {c : Int64} (hc : 0 < c.toInt) (h : ¬ ((c - (c / (64 : Int64)) * (64 : Int64)) = (0 : Int64))) : (((c - (1 : Int64)) / ((64 : Int32).toInt64)) + (1 : Int64)) = ((c / (64 : Int64)) + (1 : Int64)) := by
  have r := rng64 c
  have e1 : ((64 : Int32).toInt64) = (64 : Int64) := by decide
  have e2 := (c_ldiv c (64 : Int64) 64 (by decide) (by decide)).1 (by omega)
  have e3 := (c_lrem c (64 : Int64) 64 (by decide)).1 (by omega)
  have z0 : (0 : Int64).toInt = 0 := rfl
  have z1 : (1 : Int64).toInt = 1 := rfl
  have h' : ¬ (c - (c / (64 : Int64)) * (64 : Int64)).toInt = 0 := fun q => h (Int64.toInt_inj.mp (q.trans z0.symm))
  have e4 := c_lsub c (1 : Int64)
  have r4 := rng64 (c - (1 : Int64))
  have e5 := (c_ldiv (c - (1 : Int64)) (64 : Int64) 64 (by decide) (by decide)).1 (by omega)
  have e6 : ((c - (1 : Int64)) / (64 : Int64)) = (c / (64 : Int64)) := Int64.toInt_inj.mp (by omega)
  rw [e1, e6]
theorem own_cp1 (x : Int64) : 0 < ((x &&& (255 : Int64)) + (1 : Int64)).toInt := by
  have h := c_maskL x (255 : Int64) 8 (by decide) (by decide)
  have e := c_ladd (x &&& (255 : Int64)) (1 : Int64)
  have r := rng64 ((x &&& (255 : Int64)) + (1 : Int64))
  have z1 : (1 : Int64).toInt = 1 := rfl
  omega
theorem own_cp2 {x : Int64} (hn : ¬ ((x &&& (9223372036854775807 : Int64)) = (0 : Int64))) : 0 < (x &&& (9223372036854775807 : Int64)).toInt := by
  have h := c_maskL x (9223372036854775807 : Int64) 63 (by decide) (by decide)
  have z0 : (0 : Int64).toInt = 0 := rfl
  have h' : ¬ (x &&& (9223372036854775807 : Int64)).toInt = 0 := fun q => hn (Int64.toInt_inj.mp (q.trans z0.symm))
  omega
theorem d2_0 : decode prog_5_method_9_code 0 = .ok (.bipush 64, 2) := by decide +kernel
theorem d2_2 : decode prog_5_method_9_code 2 = .ok (.aload_n 0, 1) := by decide +kernel
theorem d2_3 : decode prog_5_method_9_code 3 = .ok (.getfield 35, 3) := by decide +kernel
theorem d2_6 : decode prog_5_method_9_code 6 = .ok (.idiv, 1) := by decide +kernel
theorem d2_7 : decode prog_5_method_9_code 7 = .ok (.ireturn, 1) := by decide +kernel
theorem pn_2 : plainName "com/example/keys_to_bits/keystobits/FilterKind" = true := by first | (simp [plainName, overriddenIn]; done) | decide +kernel
theorem d1_0 : decode prog_5_method_10_code 0 = .ok (.lload_n 1, 1) := by decide +kernel
theorem d1_1 : decode prog_5_method_10_code 1 = .ok (.lconst 1, 1) := by decide +kernel
theorem d1_2 : decode prog_5_method_10_code 2 = .ok (.lsub, 1) := by decide +kernel
theorem d1_3 : decode prog_5_method_10_code 3 = .ok (.aload_n 0, 1) := by decide +kernel
theorem d1_4 : decode prog_5_method_10_code 4 = .ok (.invokevirtual 40, 3) := by decide +kernel
theorem pd___I : parseMethodDescriptor "()I" = some ⟨[], some .int⟩ := by decide +kernel
theorem d1_7 : decode prog_5_method_10_code 7 = .ok (.i2l, 1) := by decide +kernel
theorem d1_8 : decode prog_5_method_10_code 8 = .ok (.ldiv, 1) := by decide +kernel
theorem d1_9 : decode prog_5_method_10_code 9 = .ok (.lconst 1, 1) := by decide +kernel
theorem d1_10 : decode prog_5_method_10_code 10 = .ok (.ladd, 1) := by decide +kernel
theorem d1_11 : decode prog_5_method_10_code 11 = .ok (.lreturn, 1) := by decide +kernel
theorem pn_1 : plainName "com/example/keys_to_bits/keystobits/FilterKind" = true := by first | (simp [plainName, overriddenIn]; done) | decide +kernel
theorem pd__J_J : parseMethodDescriptor "(J)J" = some ⟨[.long], some .long⟩ := by decide +kernel
theorem pn_0 : plainName "com/example/keys_to_bits/keystobits/FilterKindWordsPinLaw" = true := by first | (simp [plainName, overriddenIn]; done) | decide +kernel
theorem ef_rmC1 (m : MethodId) (u0 : Addr) : entryFrame m #[(.ref u0)] 1 = mkF m 0 #[.val (.ref u0)] [] := by first | (simp [entryFrame, mkF, argsToLocals, Value.category]; done) | rfl
set_option maxRecDepth 65536 in
set_option maxHeartbeats 40000000 in
theorem rmC1 (l : Launch) (Z : State) (a0 : Array Value) (hw : ∀ d ∈ tables_1, d.before a0 Z = true) (ws : List Jvm.Cond) (u0 : Addr) (h0 : Heap) (n0 : Nat) (Z0 : n0 ≤ h0.size) (P_F_u0_FilterKind_bitsPerCell : Fld Z h0 u0 "com/example/keys_to_bits/keystobits/FilterKind" "bitsPerCell" "I" (.int (1 : Int32))) :
    MetFree l (⟨"com/example/keys_to_bits/keystobits/FilterKind", "cellsPerWord", "()I"⟩ : MethodName) (head1 (Jvm.Cond.code (⟨"com/example/keys_to_bits/keystobits/FilterKind", "cellsPerWord", "()I"⟩ : MethodName) prog_5_method_9_code 1 (some .int) :: ws) ({ frames := 0, cells := 0, slots := 0, locals := 0 } : Room)) (fun a U => a = #[(.ref u0)] ∧ Z.Warmed39 U.vm ∧ U.heap = h0) (fun _ _ _ _ _ => True) (fun _ U o U' => ∃ v L, o = .returned v ∧ own_QP (some (.int (64 : Int32))) h0 n0 v U'.heap L ∧ FrameEnd U o U' L ({ frames := 0, cells := 0, slots := 0, locals := 0 } : Room).cells ({ frames := 0, cells := 0, slots := 0, locals := 0 } : Room).slots) := by
  refine MetFree.of_bodySF (plainFor_of_name pn_2) hisR ?_
  intro p e s m args below meth c s₁ Bd hml0 hP hK
  obtain ⟨rfl, hZ, hh⟩ := hP
  have hx := Bd.exec
  have hby := Bd.bytes
  have hml : c.maxLocals = 1 := hml0
  have hown : s.vm.findClass "com/example/keys_to_bits/keystobits/FilterKind" = some m.cls := findClass_of_methodNamed Bd.named
  have hnm := (name_of_methodNamed Bd.named Bd.method).1
  have X0 : Stand p l e ({ frames := 0, cells := 0, slots := 0, locals := 0 } : Room) s m #[(.ref u0)] below meth c s₁ [] 0 0 := Stand.of_body Bd
  have e0 : s₁.heap = h0 := by rw [← hh, Bd.state]; rfl
  have N0 := Fr.nil n0
  have pre0 : ∀ t, Steps p.tables e below (s₁.setTop (mkF m 0 #[.val (.ref u0)] [])) t → Steps p.tables e below (s₁.setTop (entryFrame m #[(.ref u0)] 1)) t := fun t k => castTop (ef_rmC1 m u0) k
  obtain ⟨T1, X1, e1, st1⟩ := getF X0 hx hZ hown (host := "") (Or.inl (hw _ (List.mem_of_getElem? (i := 15) rfl))) Via.refl e0 P_F_u0_FilterKind_bitsPerCell (g := (mkF m 3 #[.val (.ref u0)] [(.ref u0), (.int (64 : Int32))])) rfl rfl (hb hby d2_3)
  obtain ⟨fs, hr, hrun, hended, hW, hsame⟩ := X1.leave (v := some (.int ((64 : Int32) / (1 : Int32)))) (fun h => by rw [Bd.returns] at h; cases h)
  refine ⟨_, _, pre0 _ ?_, hrun, hended, _, _, rfl, ?_, ⟨_, rfl⟩, hW, hsame.mono (by decide) (by decide)⟩
  · show Steps p.tables e below (s₁.setTop (mkF m 0 #[.val (.ref u0)] [])) _
    refine XS.bipush X0.here hx rfl (hb hby d2_0) ?_
    show Steps p.tables e below (s₁.setTop (mkF m 2 #[.val (.ref u0)] [(.int (64 : Int32))])) _
    refine XS.aloadN X0.here hx rfl (hb hby d2_2) rfl rfl ?_
    show Steps p.tables e below (s₁.setTop (mkF m 3 #[.val (.ref u0)] [(.ref u0), (.int (64 : Int32))])) _
    refine st1 _ ?_
    show Steps p.tables e below (T1.setTop (mkF m 6 #[.val (.ref u0)] [(.int (1 : Int32)), (.int (64 : Int32))])) _
    refine XS.idiv X1.here hx rfl (hb hby d2_6) rfl (by decide : ¬ ((1 : Int32) = (0 : Int32))) ?_
    show Steps p.tables e below (T1.setTop (mkF m 7 #[.val (.ref u0)] [(.int ((64 : Int32) / (1 : Int32)))])) _
    exact retI X1 hx Bd.returns (hb hby d2_7) hr
  · show own_QP (some (.int (64 : Int32))) h0 n0 _ T1.heap _
    rw [e1]
    exact ⟨(congrArg (fun z => some (Value.int z)) (by decide : ((64 : Int32) / (1 : Int32)) = (64 : Int32))), N0, rfl⟩

theorem ef_rmW1 (m : MethodId) (u0 : Addr) (q1 : Int64) : entryFrame m #[(.ref u0), (.long q1)] 3 = mkF m 0 #[.val (.ref u0), .val (.long q1), .second] [] := by first | (simp [entryFrame, mkF, argsToLocals, Value.category]; done) | rfl
set_option maxRecDepth 65536 in
set_option maxHeartbeats 40000000 in
theorem rmW1 (l : Launch) (Z : State) (a0 : Array Value) (hw : ∀ d ∈ tables_1, d.before a0 Z = true) (ws : List Jvm.Cond) (u0 : Addr) (q1 : Int64) (h0 : Heap) (n0 : Nat) (Z0 : n0 ≤ h0.size) (P_E_u0 : Exa Z h0 u0 "com/example/keys_to_bits/keystobits/FilterKind$1") (P_F_u0_FilterKind_bitsPerCell : Fld Z h0 u0 "com/example/keys_to_bits/keystobits/FilterKind" "bitsPerCell" "I" (.int (1 : Int32))) :
    MetFree l (⟨"com/example/keys_to_bits/keystobits/FilterKind", "words", "(J)J"⟩ : MethodName) (head1 (Jvm.Cond.code (⟨"com/example/keys_to_bits/keystobits/FilterKind", "words", "(J)J"⟩ : MethodName) prog_5_method_10_code 3 (some .long) :: ws) ({ frames := 1, cells := 0, slots := 0, locals := 14 } : Room)) (fun a U => a = #[(.ref u0), (.long q1)] ∧ Z.Warmed39 U.vm ∧ U.heap = h0) (fun _ _ _ _ _ => True) (fun _ U o U' => ∃ v L, o = .returned v ∧ own_QP (some (.long (((q1 - (1 : Int64)) / ((64 : Int32).toInt64)) + (1 : Int64)))) h0 n0 v U'.heap L ∧ FrameEnd U o U' L ({ frames := 1, cells := 0, slots := 0, locals := 14 } : Room).cells ({ frames := 1, cells := 0, slots := 0, locals := 14 } : Room).slots) := by
  refine MetFree.of_bodySF (plainFor_of_name pn_1) hisR ?_
  intro p e s m args below meth c s₁ Bd hml0 hP hK
  obtain ⟨rfl, hZ, hh⟩ := hP
  have hx := Bd.exec
  have hby := Bd.bytes
  have hml : c.maxLocals = 3 := hml0
  have hown : s.vm.findClass "com/example/keys_to_bits/keystobits/FilterKind" = some m.cls := findClass_of_methodNamed Bd.named
  have hnm := (name_of_methodNamed Bd.named Bd.method).1
  have X0 : Stand p l e ({ frames := 1, cells := 0, slots := 0, locals := 14 } : Room) s m #[(.ref u0), (.long q1)] below meth c s₁ [] 0 0 := Stand.of_body Bd
  have e0 : s₁.heap = h0 := by rw [← hh, Bd.state]; rfl
  have N0 := Fr.nil n0
  have pre0 : ∀ t, Steps p.tables e below (s₁.setTop (mkF m 0 #[.val (.ref u0), .val (.long q1), .second] [])) t → Steps p.tables e below (s₁.setTop (entryFrame m #[(.ref u0), (.long q1)] 3)) t := fun t k => castTop (ef_rmW1 m u0 q1) k
  obtain ⟨cq2, kq2, q2a, q2b, q2c⟩ := isOf hZ e0 P_E_u0
  obtain ⟨_, _, ⟨T1, L1, k1, n1⟩, -, X1, ⟨Lc1, hQ1, l1, y1, z1⟩, st1⟩ := X0.virtualBack hx (y := (⟨"com/example/keys_to_bits/keystobits/FilterKind", "cellsPerWord", "()I"⟩ : MethodName)) (z := (⟨"com/example/keys_to_bits/keystobits/FilterKind", "cellsPerWord", "()I"⟩ : MethodName)) hown (mvT hZ (hw _ (List.mem_of_getElem? (i := 10) rfl))) (mvT hZ (hw _ (List.mem_of_getElem? (i := 11) rfl))) (notFace_of_selects (args := #[]) (mvT hZ (hw _ (List.mem_of_getElem? (i := 13) rfl)))) (mvT hZ (hw _ (List.mem_of_getElem? (i := 13) rfl))) (mvT hZ (hw _ (List.mem_of_getElem? (i := 12) rfl))) (by decide) (backOf (W := 2) (rmC1 l Z a0 hw [] u0 h0 n0 Z0 P_F_u0_FilterKind_bitsPerCell) hZ (hw _ (List.mem_of_getElem? (i := 14) rfl)) (hw _ (List.mem_of_getElem? (i := 1) rfl)) (by decide) (by decide)) q2a q2c (g := (mkF m 4 #[.val (.ref u0), .val (.long q1), .second] [(.ref u0), (.long (q1 - (1 : Int64)))])) rfl (by rw [hml]; rfl) (Steps.refl _) (argsL := []) (rest := [(.long (q1 - (1 : Int64)))]) (lenOf pd___I rfl) rfl (by show 2 * 0 + _ ≤ _; exact Nat.le_of_eq rfl) (hb hby d1_4) (fun _ _ => ⟨rfl, e0, (by decide : 0 + 0 ≤ _), (by decide : 0 + 0 ≤ _)⟩)
  dsimp only [Pt.U, Pt.locs, Pt.cells, Pt.slots] at X1 l1 y1 z1 st1 hQ1
  subst l1 y1 z1
  obtain ⟨rfl, N1q, e1⟩ := hQ1
  have N1 := Fr.app N0 N1q
  obtain ⟨fs, hr, hrun, hended, hW, hsame⟩ := X1.leave (v := some (.long (((q1 - (1 : Int64)) / ((64 : Int32).toInt64)) + (1 : Int64)))) (fun h => by rw [Bd.returns] at h; cases h)
  refine ⟨_, _, pre0 _ ?_, hrun, hended, _, _, rfl, ?_, ⟨_, rfl⟩, hW, hsame.mono (by decide) (by decide)⟩
  · show Steps p.tables e below (s₁.setTop (mkF m 0 #[.val (.ref u0), .val (.long q1), .second] [])) _
    refine XS.lloadN X0.here hx rfl (hb hby d1_0) rfl ?_
    show Steps p.tables e below (s₁.setTop (mkF m 1 #[.val (.ref u0), .val (.long q1), .second] [(.long q1)])) _
    refine XS.lconst X0.here hx rfl (hb hby d1_1) ?_
    show Steps p.tables e below (s₁.setTop (mkF m 2 #[.val (.ref u0), .val (.long q1), .second] [(.long (1 : Int64)), (.long q1)])) _
    refine XS.lsub X0.here hx rfl (hb hby d1_2) rfl ?_
    show Steps p.tables e below (s₁.setTop (mkF m 3 #[.val (.ref u0), .val (.long q1), .second] [(.long (q1 - (1 : Int64)))])) _
    refine XS.aloadN X0.here hx rfl (hb hby d1_3) rfl rfl ?_
    show Steps p.tables e below (s₁.setTop (mkF m 4 #[.val (.ref u0), .val (.long q1), .second] [(.ref u0), (.long (q1 - (1 : Int64)))])) _
    refine st1.trans ?_
    show Steps p.tables e below (T1.setTop (mkF m 7 #[.val (.ref u0), .val (.long q1), .second] [(.int (64 : Int32)), (.long (q1 - (1 : Int64)))])) _
    refine XS.i2l X1.here hx rfl (hb hby d1_7) rfl ?_
    show Steps p.tables e below (T1.setTop (mkF m 8 #[.val (.ref u0), .val (.long q1), .second] [(.long ((64 : Int32).toInt64)), (.long (q1 - (1 : Int64)))])) _
    refine XS.ldiv X1.here hx rfl (hb hby d1_8) rfl (by decide : ¬ (((64 : Int32).toInt64) = (0 : Int64))) ?_
    show Steps p.tables e below (T1.setTop (mkF m 9 #[.val (.ref u0), .val (.long q1), .second] [(.long ((q1 - (1 : Int64)) / ((64 : Int32).toInt64)))])) _
    refine XS.lconst X1.here hx rfl (hb hby d1_9) ?_
    show Steps p.tables e below (T1.setTop (mkF m 10 #[.val (.ref u0), .val (.long q1), .second] [(.long (1 : Int64)), (.long ((q1 - (1 : Int64)) / ((64 : Int32).toInt64)))])) _
    refine XS.ladd X1.here hx rfl (hb hby d1_10) rfl ?_
    show Steps p.tables e below (T1.setTop (mkF m 11 #[.val (.ref u0), .val (.long q1), .second] [(.long (((q1 - (1 : Int64)) / ((64 : Int32).toInt64)) + (1 : Int64)))])) _
    exact retOut X1 hx Bd.returns rfl (Or.inr (Or.inl ⟨rfl, rfl, _, rfl⟩)) (hb hby d1_11) hr
  · show own_QP (some (.long (((q1 - (1 : Int64)) / ((64 : Int32).toInt64)) + (1 : Int64)))) h0 n0 _ T1.heap _
    rw [e1]
    exact ⟨rfl, N1, rfl⟩

theorem ef_rmC2 (m : MethodId) (u0 : Addr) : entryFrame m #[(.ref u0)] 1 = mkF m 0 #[.val (.ref u0)] [] := by first | (simp [entryFrame, mkF, argsToLocals, Value.category]; done) | rfl
set_option maxRecDepth 65536 in
set_option maxHeartbeats 40000000 in
theorem rmC2 (l : Launch) (Z : State) (a0 : Array Value) (hw : ∀ d ∈ tables_1, d.before a0 Z = true) (ws : List Jvm.Cond) (u0 : Addr) (h0 : Heap) (n0 : Nat) (Z0 : n0 ≤ h0.size) (P_F_u0_FilterKind_bitsPerCell : Fld Z h0 u0 "com/example/keys_to_bits/keystobits/FilterKind" "bitsPerCell" "I" (.int (4 : Int32))) :
    MetFree l (⟨"com/example/keys_to_bits/keystobits/FilterKind", "cellsPerWord", "()I"⟩ : MethodName) (head1 (Jvm.Cond.code (⟨"com/example/keys_to_bits/keystobits/FilterKind", "cellsPerWord", "()I"⟩ : MethodName) prog_5_method_9_code 1 (some .int) :: ws) ({ frames := 0, cells := 0, slots := 0, locals := 0 } : Room)) (fun a U => a = #[(.ref u0)] ∧ Z.Warmed39 U.vm ∧ U.heap = h0) (fun _ _ _ _ _ => True) (fun _ U o U' => ∃ v L, o = .returned v ∧ own_QP (some (.int (16 : Int32))) h0 n0 v U'.heap L ∧ FrameEnd U o U' L ({ frames := 0, cells := 0, slots := 0, locals := 0 } : Room).cells ({ frames := 0, cells := 0, slots := 0, locals := 0 } : Room).slots) := by
  refine MetFree.of_bodySF (plainFor_of_name pn_2) hisR ?_
  intro p e s m args below meth c s₁ Bd hml0 hP hK
  obtain ⟨rfl, hZ, hh⟩ := hP
  have hx := Bd.exec
  have hby := Bd.bytes
  have hml : c.maxLocals = 1 := hml0
  have hown : s.vm.findClass "com/example/keys_to_bits/keystobits/FilterKind" = some m.cls := findClass_of_methodNamed Bd.named
  have hnm := (name_of_methodNamed Bd.named Bd.method).1
  have X0 : Stand p l e ({ frames := 0, cells := 0, slots := 0, locals := 0 } : Room) s m #[(.ref u0)] below meth c s₁ [] 0 0 := Stand.of_body Bd
  have e0 : s₁.heap = h0 := by rw [← hh, Bd.state]; rfl
  have N0 := Fr.nil n0
  have pre0 : ∀ t, Steps p.tables e below (s₁.setTop (mkF m 0 #[.val (.ref u0)] [])) t → Steps p.tables e below (s₁.setTop (entryFrame m #[(.ref u0)] 1)) t := fun t k => castTop (ef_rmC2 m u0) k
  obtain ⟨T1, X1, e1, st1⟩ := getF X0 hx hZ hown (host := "") (Or.inl (hw _ (List.mem_of_getElem? (i := 15) rfl))) Via.refl e0 P_F_u0_FilterKind_bitsPerCell (g := (mkF m 3 #[.val (.ref u0)] [(.ref u0), (.int (64 : Int32))])) rfl rfl (hb hby d2_3)
  obtain ⟨fs, hr, hrun, hended, hW, hsame⟩ := X1.leave (v := some (.int ((64 : Int32) / (4 : Int32)))) (fun h => by rw [Bd.returns] at h; cases h)
  refine ⟨_, _, pre0 _ ?_, hrun, hended, _, _, rfl, ?_, ⟨_, rfl⟩, hW, hsame.mono (by decide) (by decide)⟩
  · show Steps p.tables e below (s₁.setTop (mkF m 0 #[.val (.ref u0)] [])) _
    refine XS.bipush X0.here hx rfl (hb hby d2_0) ?_
    show Steps p.tables e below (s₁.setTop (mkF m 2 #[.val (.ref u0)] [(.int (64 : Int32))])) _
    refine XS.aloadN X0.here hx rfl (hb hby d2_2) rfl rfl ?_
    show Steps p.tables e below (s₁.setTop (mkF m 3 #[.val (.ref u0)] [(.ref u0), (.int (64 : Int32))])) _
    refine st1 _ ?_
    show Steps p.tables e below (T1.setTop (mkF m 6 #[.val (.ref u0)] [(.int (4 : Int32)), (.int (64 : Int32))])) _
    refine XS.idiv X1.here hx rfl (hb hby d2_6) rfl (by decide : ¬ ((4 : Int32) = (0 : Int32))) ?_
    show Steps p.tables e below (T1.setTop (mkF m 7 #[.val (.ref u0)] [(.int ((64 : Int32) / (4 : Int32)))])) _
    exact retI X1 hx Bd.returns (hb hby d2_7) hr
  · show own_QP (some (.int (16 : Int32))) h0 n0 _ T1.heap _
    rw [e1]
    exact ⟨(congrArg (fun z => some (Value.int z)) (by decide : ((64 : Int32) / (4 : Int32)) = (16 : Int32))), N0, rfl⟩

theorem ef_rmW2 (m : MethodId) (u0 : Addr) (q1 : Int64) : entryFrame m #[(.ref u0), (.long q1)] 3 = mkF m 0 #[.val (.ref u0), .val (.long q1), .second] [] := by first | (simp [entryFrame, mkF, argsToLocals, Value.category]; done) | rfl
set_option maxRecDepth 65536 in
set_option maxHeartbeats 40000000 in
theorem rmW2 (l : Launch) (Z : State) (a0 : Array Value) (hw : ∀ d ∈ tables_1, d.before a0 Z = true) (ws : List Jvm.Cond) (u0 : Addr) (q1 : Int64) (h0 : Heap) (n0 : Nat) (Z0 : n0 ≤ h0.size) (P_E_u0 : Exa Z h0 u0 "com/example/keys_to_bits/keystobits/FilterKind$2") (P_F_u0_FilterKind_bitsPerCell : Fld Z h0 u0 "com/example/keys_to_bits/keystobits/FilterKind" "bitsPerCell" "I" (.int (4 : Int32))) :
    MetFree l (⟨"com/example/keys_to_bits/keystobits/FilterKind", "words", "(J)J"⟩ : MethodName) (head1 (Jvm.Cond.code (⟨"com/example/keys_to_bits/keystobits/FilterKind", "words", "(J)J"⟩ : MethodName) prog_5_method_10_code 3 (some .long) :: ws) ({ frames := 1, cells := 0, slots := 0, locals := 14 } : Room)) (fun a U => a = #[(.ref u0), (.long q1)] ∧ Z.Warmed39 U.vm ∧ U.heap = h0) (fun _ _ _ _ _ => True) (fun _ U o U' => ∃ v L, o = .returned v ∧ own_QP (some (.long (((q1 - (1 : Int64)) / ((16 : Int32).toInt64)) + (1 : Int64)))) h0 n0 v U'.heap L ∧ FrameEnd U o U' L ({ frames := 1, cells := 0, slots := 0, locals := 14 } : Room).cells ({ frames := 1, cells := 0, slots := 0, locals := 14 } : Room).slots) := by
  refine MetFree.of_bodySF (plainFor_of_name pn_1) hisR ?_
  intro p e s m args below meth c s₁ Bd hml0 hP hK
  obtain ⟨rfl, hZ, hh⟩ := hP
  have hx := Bd.exec
  have hby := Bd.bytes
  have hml : c.maxLocals = 3 := hml0
  have hown : s.vm.findClass "com/example/keys_to_bits/keystobits/FilterKind" = some m.cls := findClass_of_methodNamed Bd.named
  have hnm := (name_of_methodNamed Bd.named Bd.method).1
  have X0 : Stand p l e ({ frames := 1, cells := 0, slots := 0, locals := 14 } : Room) s m #[(.ref u0), (.long q1)] below meth c s₁ [] 0 0 := Stand.of_body Bd
  have e0 : s₁.heap = h0 := by rw [← hh, Bd.state]; rfl
  have N0 := Fr.nil n0
  have pre0 : ∀ t, Steps p.tables e below (s₁.setTop (mkF m 0 #[.val (.ref u0), .val (.long q1), .second] [])) t → Steps p.tables e below (s₁.setTop (entryFrame m #[(.ref u0), (.long q1)] 3)) t := fun t k => castTop (ef_rmW2 m u0 q1) k
  obtain ⟨cq2, kq2, q2a, q2b, q2c⟩ := isOf hZ e0 P_E_u0
  obtain ⟨_, _, ⟨T1, L1, k1, n1⟩, -, X1, ⟨Lc1, hQ1, l1, y1, z1⟩, st1⟩ := X0.virtualBack hx (y := (⟨"com/example/keys_to_bits/keystobits/FilterKind", "cellsPerWord", "()I"⟩ : MethodName)) (z := (⟨"com/example/keys_to_bits/keystobits/FilterKind", "cellsPerWord", "()I"⟩ : MethodName)) hown (mvT hZ (hw _ (List.mem_of_getElem? (i := 10) rfl))) (mvT hZ (hw _ (List.mem_of_getElem? (i := 11) rfl))) (notFace_of_selects (args := #[]) (mvT hZ (hw _ (List.mem_of_getElem? (i := 22) rfl)))) (mvT hZ (hw _ (List.mem_of_getElem? (i := 22) rfl))) (mvT hZ (hw _ (List.mem_of_getElem? (i := 12) rfl))) (by decide) (backOf (W := 2) (rmC2 l Z a0 hw [] u0 h0 n0 Z0 P_F_u0_FilterKind_bitsPerCell) hZ (hw _ (List.mem_of_getElem? (i := 14) rfl)) (hw _ (List.mem_of_getElem? (i := 1) rfl)) (by decide) (by decide)) q2a q2c (g := (mkF m 4 #[.val (.ref u0), .val (.long q1), .second] [(.ref u0), (.long (q1 - (1 : Int64)))])) rfl (by rw [hml]; rfl) (Steps.refl _) (argsL := []) (rest := [(.long (q1 - (1 : Int64)))]) (lenOf pd___I rfl) rfl (by show 2 * 0 + _ ≤ _; exact Nat.le_of_eq rfl) (hb hby d1_4) (fun _ _ => ⟨rfl, e0, (by decide : 0 + 0 ≤ _), (by decide : 0 + 0 ≤ _)⟩)
  dsimp only [Pt.U, Pt.locs, Pt.cells, Pt.slots] at X1 l1 y1 z1 st1 hQ1
  subst l1 y1 z1
  obtain ⟨rfl, N1q, e1⟩ := hQ1
  have N1 := Fr.app N0 N1q
  obtain ⟨fs, hr, hrun, hended, hW, hsame⟩ := X1.leave (v := some (.long (((q1 - (1 : Int64)) / ((16 : Int32).toInt64)) + (1 : Int64)))) (fun h => by rw [Bd.returns] at h; cases h)
  refine ⟨_, _, pre0 _ ?_, hrun, hended, _, _, rfl, ?_, ⟨_, rfl⟩, hW, hsame.mono (by decide) (by decide)⟩
  · show Steps p.tables e below (s₁.setTop (mkF m 0 #[.val (.ref u0), .val (.long q1), .second] [])) _
    refine XS.lloadN X0.here hx rfl (hb hby d1_0) rfl ?_
    show Steps p.tables e below (s₁.setTop (mkF m 1 #[.val (.ref u0), .val (.long q1), .second] [(.long q1)])) _
    refine XS.lconst X0.here hx rfl (hb hby d1_1) ?_
    show Steps p.tables e below (s₁.setTop (mkF m 2 #[.val (.ref u0), .val (.long q1), .second] [(.long (1 : Int64)), (.long q1)])) _
    refine XS.lsub X0.here hx rfl (hb hby d1_2) rfl ?_
    show Steps p.tables e below (s₁.setTop (mkF m 3 #[.val (.ref u0), .val (.long q1), .second] [(.long (q1 - (1 : Int64)))])) _
    refine XS.aloadN X0.here hx rfl (hb hby d1_3) rfl rfl ?_
    show Steps p.tables e below (s₁.setTop (mkF m 4 #[.val (.ref u0), .val (.long q1), .second] [(.ref u0), (.long (q1 - (1 : Int64)))])) _
    refine st1.trans ?_
    show Steps p.tables e below (T1.setTop (mkF m 7 #[.val (.ref u0), .val (.long q1), .second] [(.int (16 : Int32)), (.long (q1 - (1 : Int64)))])) _
    refine XS.i2l X1.here hx rfl (hb hby d1_7) rfl ?_
    show Steps p.tables e below (T1.setTop (mkF m 8 #[.val (.ref u0), .val (.long q1), .second] [(.long ((16 : Int32).toInt64)), (.long (q1 - (1 : Int64)))])) _
    refine XS.ldiv X1.here hx rfl (hb hby d1_8) rfl (by decide : ¬ (((16 : Int32).toInt64) = (0 : Int64))) ?_
    show Steps p.tables e below (T1.setTop (mkF m 9 #[.val (.ref u0), .val (.long q1), .second] [(.long ((q1 - (1 : Int64)) / ((16 : Int32).toInt64)))])) _
    refine XS.lconst X1.here hx rfl (hb hby d1_9) ?_
    show Steps p.tables e below (T1.setTop (mkF m 10 #[.val (.ref u0), .val (.long q1), .second] [(.long (1 : Int64)), (.long ((q1 - (1 : Int64)) / ((16 : Int32).toInt64)))])) _
    refine XS.ladd X1.here hx rfl (hb hby d1_10) rfl ?_
    show Steps p.tables e below (T1.setTop (mkF m 11 #[.val (.ref u0), .val (.long q1), .second] [(.long (((q1 - (1 : Int64)) / ((16 : Int32).toInt64)) + (1 : Int64)))])) _
    exact retOut X1 hx Bd.returns rfl (Or.inr (Or.inl ⟨rfl, rfl, _, rfl⟩)) (hb hby d1_11) hr
  · show own_QP (some (.long (((q1 - (1 : Int64)) / ((16 : Int32).toInt64)) + (1 : Int64)))) h0 n0 _ T1.heap _
    rw [e1]
    exact ⟨rfl, N1, rfl⟩

theorem ef_rm0 (m : MethodId) (q0 : Int64) (p1 : Int32) : entryFrame m #[(.long q0), (.int p1)] maxLocals = mkF m 0 #[.val (.long q0), .second, .val (.int p1), .unset, .unset, .unset, .unset, .unset, .unset, .unset, .unset, .unset, .unset, .unset, .unset] [] := by first | (simp [entryFrame, mkF, argsToLocals, Value.category, maxLocals]; done) | rfl
set_option maxRecDepth 65536 in
set_option maxHeartbeats 40000000 in
theorem rm0 (l : Launch) (Z : State) (a0 : Array Value) (hw : ∀ d ∈ tables_1, d.before a0 Z = true) (ws : List Jvm.Cond) (q0 : Int64) (p1 : Int32) (wS : Addr) (wC : Addr) (h0 : Heap) (n0 : Nat) (Z0 : n0 ≤ h0.size) (P_S_FilterKind_STANDARD : Sta Z h0 "com/example/keys_to_bits/keystobits/FilterKind" "STANDARD" "Lcom/example/keys_to_bits/keystobits/FilterKind;" (.ref wS)) (P_E_wS : Exa Z h0 wS "com/example/keys_to_bits/keystobits/FilterKind$1") (P_F_wS_FilterKind_bitsPerCell : Fld Z h0 wS "com/example/keys_to_bits/keystobits/FilterKind" "bitsPerCell" "I" (.int (1 : Int32))) (P_S_FilterKind_COUNTING : Sta Z h0 "com/example/keys_to_bits/keystobits/FilterKind" "COUNTING" "Lcom/example/keys_to_bits/keystobits/FilterKind;" (.ref wC)) (P_E_wC : Exa Z h0 wC "com/example/keys_to_bits/keystobits/FilterKind$2") (P_F_wC_FilterKind_bitsPerCell : Fld Z h0 wC "com/example/keys_to_bits/keystobits/FilterKind" "bitsPerCell" "I" (.int (4 : Int32))) :
    MetFree l x (head1 (Jvm.Cond.code x code maxLocals ret :: ws) room_1) (fun a U => a = #[(.long q0), (.int p1)] ∧ Z.Warmed39 U.vm ∧ U.heap = h0) (fun _ _ _ _ _ => True) (fun _ U o U' => ∃ v L, o = .returned v ∧ own_Q0 n0 v U'.heap L ∧ FrameEnd U o U' L room_1.cells room_1.slots) := by
  refine MetFree.of_bodySF (plainFor_of_name pn_0) hisR ?_
  intro p e s m args below meth c s₁ Bd hml0 hP hK
  obtain ⟨rfl, hZ, hh⟩ := hP
  have hx := Bd.exec
  have hby := Bd.bytes
  have hml : c.maxLocals = 15 := hml0
  have hown : s.vm.findClass "com/example/keys_to_bits/keystobits/FilterKindWordsPinLaw" = some m.cls := findClass_of_methodNamed Bd.named
  have hnm := (name_of_methodNamed Bd.named Bd.method).1
  have X0 : Stand p l e room_1 s m #[(.long q0), (.int p1)] below meth c s₁ [] 0 0 := Stand.of_body Bd
  have e0 : s₁.heap = h0 := by rw [← hh, Bd.state]; rfl
  have N0 := Fr.nil n0
  have pre0 : ∀ t, Steps p.tables e below (s₁.setTop (mkF m 0 #[.val (.long q0), .second, .val (.int p1), .unset, .unset, .unset, .unset, .unset, .unset, .unset, .unset, .unset, .unset, .unset, .unset] [])) t → Steps p.tables e below (s₁.setTop (entryFrame m #[(.long q0), (.int p1)] maxLocals)) t := fun t k => castTop (ef_rm0 m q0 p1) k
  have pre2 : ∀ t, Steps p.tables e below (s₁.setTop (mkF m 3 #[.val (.long q0), .second, .val (.int p1), .unset, .unset, .unset, .unset, .unset, .unset, .unset, .unset, .unset, .unset, .unset, .unset] [(.int (p1 &&& (1 : Int32)))])) t → Steps p.tables e below (s₁.setTop (entryFrame m #[(.long q0), (.int p1)] maxLocals)) t := fun t kt => pre0 t (by
      show Steps p.tables e below (s₁.setTop (mkF m 0 #[.val (.long q0), .second, .val (.int p1), .unset, .unset, .unset, .unset, .unset, .unset, .unset, .unset, .unset, .unset, .unset, .unset] [])) _
      refine XS.iloadN X0.here hx rfl (hb hby at_0) rfl ?_
      show Steps p.tables e below (s₁.setTop (mkF m 1 #[.val (.long q0), .second, .val (.int p1), .unset, .unset, .unset, .unset, .unset, .unset, .unset, .unset, .unset, .unset, .unset, .unset] [(.int p1)])) _
      refine XS.iconst X0.here hx rfl (hb hby at_1) ?_
      show Steps p.tables e below (s₁.setTop (mkF m 2 #[.val (.long q0), .second, .val (.int p1), .unset, .unset, .unset, .unset, .unset, .unset, .unset, .unset, .unset, .unset, .unset, .unset] [(.int (1 : Int32)), (.int p1)])) _
      refine XS.iand X0.here hx rfl (hb hby at_2) rfl ?_
      exact kt)
  by_cases hc3_1 : (p1 &&& (1 : Int32)) = (0 : Int32)
  · obtain ⟨T3, X3, e3, st3⟩ := getS2 X0 hx hZ hown (host := "") (Or.inl (hw _ (List.mem_of_getElem? (i := 0) rfl))) Via.refl e0 P_S_FilterKind_STANDARD (g := (mkF m 22 #[.val (.long q0), .second, .val (.int p1), .val (.int (0 : Int32)), .unset, .unset, .unset, .unset, .unset, .unset, .unset, .unset, .unset, .unset, .unset] [])) rfl (hb hby at_22)
    have pre5 : ∀ t, Steps p.tables e below (T3.setTop (mkF m 45 #[.val (.long q0), .second, .val (.int p1), .val (.int (0 : Int32)), .val (.ref wS), .val (.long (64 : Int64)), .second, .unset, .unset, .unset, .unset, .unset, .unset, .unset, .unset] [(.int (p1 &&& (2 : Int32)))])) t → Steps p.tables e below (s₁.setTop (entryFrame m #[(.long q0), (.int p1)] maxLocals)) t := fun t kt => pre2 t (by
        show Steps p.tables e below (s₁.setTop (mkF m 3 #[.val (.long q0), .second, .val (.int p1), .unset, .unset, .unset, .unset, .unset, .unset, .unset, .unset, .unset, .unset, .unset, .unset] [(.int (p1 &&& (1 : Int32)))])) _
        refine XS.ifYes X0.here hx rfl (pc0 := 3) (pc' := 10) rfl (hb hby at_3) rfl ((if0 _ _).trans (teq hc3_1).1) (by decide) (by decide) ?_
        show Steps p.tables e below (s₁.setTop (mkF m 10 #[.val (.long q0), .second, .val (.int p1), .unset, .unset, .unset, .unset, .unset, .unset, .unset, .unset, .unset, .unset, .unset, .unset] [])) _
        refine XS.iconst X0.here hx rfl (hb hby at_10) ?_
        show Steps p.tables e below (s₁.setTop (mkF m 11 #[.val (.long q0), .second, .val (.int p1), .unset, .unset, .unset, .unset, .unset, .unset, .unset, .unset, .unset, .unset, .unset, .unset] [(.int (0 : Int32))])) _
        refine XS.istoreN X0.here hx rfl (hb hby at_11) rfl (l' := #[.val (.long q0), .second, .val (.int p1), .val (.int (0 : Int32)), .unset, .unset, .unset, .unset, .unset, .unset, .unset, .unset, .unset, .unset, .unset]) rfl ?_
        show Steps p.tables e below (s₁.setTop (mkF m 12 #[.val (.long q0), .second, .val (.int p1), .val (.int (0 : Int32)), .unset, .unset, .unset, .unset, .unset, .unset, .unset, .unset, .unset, .unset, .unset] [])) _
        refine XS.iloadN X0.here hx rfl (hb hby at_12) rfl ?_
        show Steps p.tables e below (s₁.setTop (mkF m 13 #[.val (.long q0), .second, .val (.int p1), .val (.int (0 : Int32)), .unset, .unset, .unset, .unset, .unset, .unset, .unset, .unset, .unset, .unset, .unset] [(.int (0 : Int32))])) _
        refine XS.ifYes X0.here hx rfl (pc0 := 13) (pc' := 22) rfl (hb hby at_13) rfl ((if0 _ _).trans (teq (by decide : (0 : Int32) = (0 : Int32))).1) (by decide) (by decide) ?_
        show Steps p.tables e below (s₁.setTop (mkF m 22 #[.val (.long q0), .second, .val (.int p1), .val (.int (0 : Int32)), .unset, .unset, .unset, .unset, .unset, .unset, .unset, .unset, .unset, .unset, .unset] [])) _
        refine st3 _ ?_
        show Steps p.tables e below (T3.setTop (mkF m 25 #[.val (.long q0), .second, .val (.int p1), .val (.int (0 : Int32)), .unset, .unset, .unset, .unset, .unset, .unset, .unset, .unset, .unset, .unset, .unset] [(.ref wS)])) _
        refine XS.astore X3.here hx rfl (hb hby at_25) rfl rfl (l' := #[.val (.long q0), .second, .val (.int p1), .val (.int (0 : Int32)), .val (.ref wS), .unset, .unset, .unset, .unset, .unset, .unset, .unset, .unset, .unset, .unset]) rfl ?_
        show Steps p.tables e below (T3.setTop (mkF m 27 #[.val (.long q0), .second, .val (.int p1), .val (.int (0 : Int32)), .val (.ref wS), .unset, .unset, .unset, .unset, .unset, .unset, .unset, .unset, .unset, .unset] [])) _
        refine XS.iloadN X3.here hx rfl (hb hby at_27) rfl ?_
        show Steps p.tables e below (T3.setTop (mkF m 28 #[.val (.long q0), .second, .val (.int p1), .val (.int (0 : Int32)), .val (.ref wS), .unset, .unset, .unset, .unset, .unset, .unset, .unset, .unset, .unset, .unset] [(.int (0 : Int32))])) _
        refine XS.ifYes X3.here hx rfl (pc0 := 28) (pc' := 37) rfl (hb hby at_28) rfl ((if0 _ _).trans (teq (by decide : (0 : Int32) = (0 : Int32))).1) (by decide) (by decide) ?_
        show Steps p.tables e below (T3.setTop (mkF m 37 #[.val (.long q0), .second, .val (.int p1), .val (.int (0 : Int32)), .val (.ref wS), .unset, .unset, .unset, .unset, .unset, .unset, .unset, .unset, .unset, .unset] [])) _
        refine X3.ldc2Long hx hown (mvT hZ (hw _ (List.mem_of_getElem? (i := 3) rfl))) (g := (mkF m 37 #[.val (.long q0), .second, .val (.int p1), .val (.int (0 : Int32)), .val (.ref wS), .unset, .unset, .unset, .unset, .unset, .unset, .unset, .unset, .unset, .unset] [])) rfl (hb hby at_37) _ ?_
        show Steps p.tables e below (T3.setTop (mkF m 40 #[.val (.long q0), .second, .val (.int p1), .val (.int (0 : Int32)), .val (.ref wS), .unset, .unset, .unset, .unset, .unset, .unset, .unset, .unset, .unset, .unset] [(.long (64 : Int64))])) _
        refine XS.lstore X3.here hx rfl (hb hby at_40) rfl (l' := #[.val (.long q0), .second, .val (.int p1), .val (.int (0 : Int32)), .val (.ref wS), .val (.long (64 : Int64)), .second, .unset, .unset, .unset, .unset, .unset, .unset, .unset, .unset]) rfl ?_
        show Steps p.tables e below (T3.setTop (mkF m 42 #[.val (.long q0), .second, .val (.int p1), .val (.int (0 : Int32)), .val (.ref wS), .val (.long (64 : Int64)), .second, .unset, .unset, .unset, .unset, .unset, .unset, .unset, .unset] [])) _
        refine XS.iloadN X3.here hx rfl (hb hby at_42) rfl ?_
        show Steps p.tables e below (T3.setTop (mkF m 43 #[.val (.long q0), .second, .val (.int p1), .val (.int (0 : Int32)), .val (.ref wS), .val (.long (64 : Int64)), .second, .unset, .unset, .unset, .unset, .unset, .unset, .unset, .unset] [(.int p1)])) _
        refine XS.iconst X3.here hx rfl (hb hby at_43) ?_
        show Steps p.tables e below (T3.setTop (mkF m 44 #[.val (.long q0), .second, .val (.int p1), .val (.int (0 : Int32)), .val (.ref wS), .val (.long (64 : Int64)), .second, .unset, .unset, .unset, .unset, .unset, .unset, .unset, .unset] [(.int (2 : Int32)), (.int p1)])) _
        refine XS.iand X3.here hx rfl (hb hby at_44) rfl ?_
        exact kt)
    by_cases hc45_4 : (p1 &&& (2 : Int32)) = (0 : Int32)
    · have pre7 : ∀ t, Steps p.tables e below (T3.setTop (mkF m 69 #[.val (.long q0), .second, .val (.int p1), .val (.int (0 : Int32)), .val (.ref wS), .val (.long (64 : Int64)), .second, .val (.long (q0 &&& (9223372036854775807 : Int64))), .second, .unset, .unset, .unset, .unset, .unset, .unset] [(.int (lcmpW (q0 &&& (9223372036854775807 : Int64)) (0 : Int64)))])) t → Steps p.tables e below (s₁.setTop (entryFrame m #[(.long q0), (.int p1)] maxLocals)) t := fun t kt => pre5 t (by
          show Steps p.tables e below (T3.setTop (mkF m 45 #[.val (.long q0), .second, .val (.int p1), .val (.int (0 : Int32)), .val (.ref wS), .val (.long (64 : Int64)), .second, .unset, .unset, .unset, .unset, .unset, .unset, .unset, .unset] [(.int (p1 &&& (2 : Int32)))])) _
          refine XS.ifYes X3.here hx rfl (pc0 := 45) (pc' := 58) rfl (hb hby at_45) rfl ((if0 _ _).trans (teq hc45_4).1) (by decide) (by decide) ?_
          show Steps p.tables e below (T3.setTop (mkF m 58 #[.val (.long q0), .second, .val (.int p1), .val (.int (0 : Int32)), .val (.ref wS), .val (.long (64 : Int64)), .second, .unset, .unset, .unset, .unset, .unset, .unset, .unset, .unset] [])) _
          refine XS.lloadN X3.here hx rfl (hb hby at_58) rfl ?_
          show Steps p.tables e below (T3.setTop (mkF m 59 #[.val (.long q0), .second, .val (.int p1), .val (.int (0 : Int32)), .val (.ref wS), .val (.long (64 : Int64)), .second, .unset, .unset, .unset, .unset, .unset, .unset, .unset, .unset] [(.long q0)])) _
          refine X3.ldc2Long hx hown (mvT hZ (hw _ (List.mem_of_getElem? (i := 17) rfl))) (g := (mkF m 59 #[.val (.long q0), .second, .val (.int p1), .val (.int (0 : Int32)), .val (.ref wS), .val (.long (64 : Int64)), .second, .unset, .unset, .unset, .unset, .unset, .unset, .unset, .unset] [(.long q0)])) rfl (hb hby at_59) _ ?_
          show Steps p.tables e below (T3.setTop (mkF m 62 #[.val (.long q0), .second, .val (.int p1), .val (.int (0 : Int32)), .val (.ref wS), .val (.long (64 : Int64)), .second, .unset, .unset, .unset, .unset, .unset, .unset, .unset, .unset] [(.long (9223372036854775807 : Int64)), (.long q0)])) _
          refine XS.land X3.here hx rfl (hb hby at_62) rfl ?_
          show Steps p.tables e below (T3.setTop (mkF m 63 #[.val (.long q0), .second, .val (.int p1), .val (.int (0 : Int32)), .val (.ref wS), .val (.long (64 : Int64)), .second, .unset, .unset, .unset, .unset, .unset, .unset, .unset, .unset] [(.long (q0 &&& (9223372036854775807 : Int64)))])) _
          refine XS.lstore X3.here hx rfl (hb hby at_63) rfl (l' := #[.val (.long q0), .second, .val (.int p1), .val (.int (0 : Int32)), .val (.ref wS), .val (.long (64 : Int64)), .second, .val (.long (q0 &&& (9223372036854775807 : Int64))), .second, .unset, .unset, .unset, .unset, .unset, .unset]) rfl ?_
          show Steps p.tables e below (T3.setTop (mkF m 65 #[.val (.long q0), .second, .val (.int p1), .val (.int (0 : Int32)), .val (.ref wS), .val (.long (64 : Int64)), .second, .val (.long (q0 &&& (9223372036854775807 : Int64))), .second, .unset, .unset, .unset, .unset, .unset, .unset] [])) _
          refine XS.lload X3.here hx rfl (hb hby at_65) rfl ?_
          show Steps p.tables e below (T3.setTop (mkF m 67 #[.val (.long q0), .second, .val (.int p1), .val (.int (0 : Int32)), .val (.ref wS), .val (.long (64 : Int64)), .second, .val (.long (q0 &&& (9223372036854775807 : Int64))), .second, .unset, .unset, .unset, .unset, .unset, .unset] [(.long (q0 &&& (9223372036854775807 : Int64)))])) _
          refine XS.lconst X3.here hx rfl (hb hby at_67) ?_
          show Steps p.tables e below (T3.setTop (mkF m 68 #[.val (.long q0), .second, .val (.int p1), .val (.int (0 : Int32)), .val (.ref wS), .val (.long (64 : Int64)), .second, .val (.long (q0 &&& (9223372036854775807 : Int64))), .second, .unset, .unset, .unset, .unset, .unset, .unset] [(.long (0 : Int64)), (.long (q0 &&& (9223372036854775807 : Int64)))])) _
          refine XS.lcmp X3.here hx rfl (hb hby at_68) rfl ?_
          exact kt)
      by_cases hc69_6 : (q0 &&& (9223372036854775807 : Int64)) = (0 : Int64)
      · have pre9 : ∀ t, Steps p.tables e below (T3.setTop (mkF m 93 #[.val (.long q0), .second, .val (.int p1), .val (.int (0 : Int32)), .val (.ref wS), .val (.long (64 : Int64)), .second, .val (.long (1 : Int64)), .second, .val (.long ((1 : Int64) / (64 : Int64))), .second, .val (.long ((1 : Int64) - ((1 : Int64) / (64 : Int64)) * (64 : Int64))), .second, .unset, .unset] [(.int (lcmpW ((1 : Int64) - ((1 : Int64) / (64 : Int64)) * (64 : Int64)) (0 : Int64)))])) t → Steps p.tables e below (s₁.setTop (entryFrame m #[(.long q0), (.int p1)] maxLocals)) t := fun t kt => pre7 t (by
            show Steps p.tables e below (T3.setTop (mkF m 69 #[.val (.long q0), .second, .val (.int p1), .val (.int (0 : Int32)), .val (.ref wS), .val (.long (64 : Int64)), .second, .val (.long (q0 &&& (9223372036854775807 : Int64))), .second, .unset, .unset, .unset, .unset, .unset, .unset] [(.int (lcmpW (q0 &&& (9223372036854775807 : Int64)) (0 : Int64)))])) _
            refine XS.ifNo X3.here hx rfl (hb hby at_69) rfl ((if0 _ _).trans (teq ((lw_eq _ _).mpr hc69_6)).2) ?_
            show Steps p.tables e below (T3.setTop (mkF m 72 #[.val (.long q0), .second, .val (.int p1), .val (.int (0 : Int32)), .val (.ref wS), .val (.long (64 : Int64)), .second, .val (.long (q0 &&& (9223372036854775807 : Int64))), .second, .unset, .unset, .unset, .unset, .unset, .unset] [])) _
            refine XS.lconst X3.here hx rfl (hb hby at_72) ?_
            show Steps p.tables e below (T3.setTop (mkF m 73 #[.val (.long q0), .second, .val (.int p1), .val (.int (0 : Int32)), .val (.ref wS), .val (.long (64 : Int64)), .second, .val (.long (q0 &&& (9223372036854775807 : Int64))), .second, .unset, .unset, .unset, .unset, .unset, .unset] [(.long (1 : Int64))])) _
            refine XS.lstore X3.here hx rfl (hb hby at_73) rfl (l' := #[.val (.long q0), .second, .val (.int p1), .val (.int (0 : Int32)), .val (.ref wS), .val (.long (64 : Int64)), .second, .val (.long (1 : Int64)), .second, .unset, .unset, .unset, .unset, .unset, .unset]) rfl ?_
            show Steps p.tables e below (T3.setTop (mkF m 75 #[.val (.long q0), .second, .val (.int p1), .val (.int (0 : Int32)), .val (.ref wS), .val (.long (64 : Int64)), .second, .val (.long (1 : Int64)), .second, .unset, .unset, .unset, .unset, .unset, .unset] [])) _
            refine XS.lload X3.here hx rfl (hb hby at_75) rfl ?_
            show Steps p.tables e below (T3.setTop (mkF m 77 #[.val (.long q0), .second, .val (.int p1), .val (.int (0 : Int32)), .val (.ref wS), .val (.long (64 : Int64)), .second, .val (.long (1 : Int64)), .second, .unset, .unset, .unset, .unset, .unset, .unset] [(.long (1 : Int64))])) _
            refine XS.lload X3.here hx rfl (hb hby at_77) rfl ?_
            show Steps p.tables e below (T3.setTop (mkF m 79 #[.val (.long q0), .second, .val (.int p1), .val (.int (0 : Int32)), .val (.ref wS), .val (.long (64 : Int64)), .second, .val (.long (1 : Int64)), .second, .unset, .unset, .unset, .unset, .unset, .unset] [(.long (64 : Int64)), (.long (1 : Int64))])) _
            refine XS.ldiv X3.here hx rfl (hb hby at_79) rfl (by decide : ¬ ((64 : Int64) = (0 : Int64))) ?_
            show Steps p.tables e below (T3.setTop (mkF m 80 #[.val (.long q0), .second, .val (.int p1), .val (.int (0 : Int32)), .val (.ref wS), .val (.long (64 : Int64)), .second, .val (.long (1 : Int64)), .second, .unset, .unset, .unset, .unset, .unset, .unset] [(.long ((1 : Int64) / (64 : Int64)))])) _
            refine XS.lstore X3.here hx rfl (hb hby at_80) rfl (l' := #[.val (.long q0), .second, .val (.int p1), .val (.int (0 : Int32)), .val (.ref wS), .val (.long (64 : Int64)), .second, .val (.long (1 : Int64)), .second, .val (.long ((1 : Int64) / (64 : Int64))), .second, .unset, .unset, .unset, .unset]) rfl ?_
            show Steps p.tables e below (T3.setTop (mkF m 82 #[.val (.long q0), .second, .val (.int p1), .val (.int (0 : Int32)), .val (.ref wS), .val (.long (64 : Int64)), .second, .val (.long (1 : Int64)), .second, .val (.long ((1 : Int64) / (64 : Int64))), .second, .unset, .unset, .unset, .unset] [])) _
            refine XS.lload X3.here hx rfl (hb hby at_82) rfl ?_
            show Steps p.tables e below (T3.setTop (mkF m 84 #[.val (.long q0), .second, .val (.int p1), .val (.int (0 : Int32)), .val (.ref wS), .val (.long (64 : Int64)), .second, .val (.long (1 : Int64)), .second, .val (.long ((1 : Int64) / (64 : Int64))), .second, .unset, .unset, .unset, .unset] [(.long (1 : Int64))])) _
            refine XS.lload X3.here hx rfl (hb hby at_84) rfl ?_
            show Steps p.tables e below (T3.setTop (mkF m 86 #[.val (.long q0), .second, .val (.int p1), .val (.int (0 : Int32)), .val (.ref wS), .val (.long (64 : Int64)), .second, .val (.long (1 : Int64)), .second, .val (.long ((1 : Int64) / (64 : Int64))), .second, .unset, .unset, .unset, .unset] [(.long (64 : Int64)), (.long (1 : Int64))])) _
            refine XS.lrem X3.here hx rfl (hb hby at_86) rfl (by decide : ¬ ((64 : Int64) = (0 : Int64))) ?_
            show Steps p.tables e below (T3.setTop (mkF m 87 #[.val (.long q0), .second, .val (.int p1), .val (.int (0 : Int32)), .val (.ref wS), .val (.long (64 : Int64)), .second, .val (.long (1 : Int64)), .second, .val (.long ((1 : Int64) / (64 : Int64))), .second, .unset, .unset, .unset, .unset] [(.long ((1 : Int64) - ((1 : Int64) / (64 : Int64)) * (64 : Int64)))])) _
            refine XS.lstore X3.here hx rfl (hb hby at_87) rfl (l' := #[.val (.long q0), .second, .val (.int p1), .val (.int (0 : Int32)), .val (.ref wS), .val (.long (64 : Int64)), .second, .val (.long (1 : Int64)), .second, .val (.long ((1 : Int64) / (64 : Int64))), .second, .val (.long ((1 : Int64) - ((1 : Int64) / (64 : Int64)) * (64 : Int64))), .second, .unset, .unset]) rfl ?_
            show Steps p.tables e below (T3.setTop (mkF m 89 #[.val (.long q0), .second, .val (.int p1), .val (.int (0 : Int32)), .val (.ref wS), .val (.long (64 : Int64)), .second, .val (.long (1 : Int64)), .second, .val (.long ((1 : Int64) / (64 : Int64))), .second, .val (.long ((1 : Int64) - ((1 : Int64) / (64 : Int64)) * (64 : Int64))), .second, .unset, .unset] [])) _
            refine XS.lload X3.here hx rfl (hb hby at_89) rfl ?_
            show Steps p.tables e below (T3.setTop (mkF m 91 #[.val (.long q0), .second, .val (.int p1), .val (.int (0 : Int32)), .val (.ref wS), .val (.long (64 : Int64)), .second, .val (.long (1 : Int64)), .second, .val (.long ((1 : Int64) / (64 : Int64))), .second, .val (.long ((1 : Int64) - ((1 : Int64) / (64 : Int64)) * (64 : Int64))), .second, .unset, .unset] [(.long ((1 : Int64) - ((1 : Int64) / (64 : Int64)) * (64 : Int64)))])) _
            refine XS.lconst X3.here hx rfl (hb hby at_91) ?_
            show Steps p.tables e below (T3.setTop (mkF m 92 #[.val (.long q0), .second, .val (.int p1), .val (.int (0 : Int32)), .val (.ref wS), .val (.long (64 : Int64)), .second, .val (.long (1 : Int64)), .second, .val (.long ((1 : Int64) / (64 : Int64))), .second, .val (.long ((1 : Int64) - ((1 : Int64) / (64 : Int64)) * (64 : Int64))), .second, .unset, .unset] [(.long (0 : Int64)), (.long ((1 : Int64) - ((1 : Int64) / (64 : Int64)) * (64 : Int64)))])) _
            refine XS.lcmp X3.here hx rfl (hb hby at_92) rfl ?_
            exact kt)
        by_cases hc93_8 : ((1 : Int64) - ((1 : Int64) / (64 : Int64)) * (64 : Int64)) = (0 : Int64)
        · obtain ⟨cq11, kq11, q11a, q11b, q11c⟩ := isOf hZ e3 P_E_wS
          obtain ⟨_, _, ⟨T10, L10, k10, n10⟩, -, X10, ⟨Lc10, hQ10, l10, y10, z10⟩, st10⟩ := X3.virtualBack hx (y := (⟨"com/example/keys_to_bits/keystobits/FilterKind", "words", "(J)J"⟩ : MethodName)) (z := (⟨"com/example/keys_to_bits/keystobits/FilterKind", "words", "(J)J"⟩ : MethodName)) hown (mvT hZ (hw _ (List.mem_of_getElem? (i := 5) rfl))) (mvT hZ (hw _ (List.mem_of_getElem? (i := 6) rfl))) (notFace_of_selects (args := #[]) (mvT hZ (hw _ (List.mem_of_getElem? (i := 8) rfl)))) (mvT hZ (hw _ (List.mem_of_getElem? (i := 8) rfl))) (mvT hZ (hw _ (List.mem_of_getElem? (i := 7) rfl))) (by decide) (backOf (W := 0) (rmW1 l Z a0 hw [] wS (1 : Int64) h0 n0 Z0 P_E_wS P_F_wS_FilterKind_bitsPerCell) hZ (hw _ (List.mem_of_getElem? (i := 9) rfl)) (hw _ (List.mem_of_getElem? (i := 1) rfl)) (by decide) (by decide)) q11a q11c (g := (mkF m 111 #[.val (.long q0), .second, .val (.int p1), .val (.int (0 : Int32)), .val (.ref wS), .val (.long (64 : Int64)), .second, .val (.long (1 : Int64)), .second, .val (.long ((1 : Int64) / (64 : Int64))), .second, .val (.long ((1 : Int64) - ((1 : Int64) / (64 : Int64)) * (64 : Int64))), .second, .val (.long ((1 : Int64) / (64 : Int64))), .second] [(.long (1 : Int64)), (.ref wS)])) rfl (by rw [hml]; rfl) (Steps.refl _) (argsL := [(.long (1 : Int64))]) (rest := []) (lenOf pd__J_J rfl) rfl (by show 2 * 0 + _ ≤ _; exact Nat.le_of_eq rfl) (hb hby at_111) (fun _ _ => ⟨rfl, e3, (by decide : 0 + 0 ≤ _), (by decide : 0 + 0 ≤ _)⟩)
          dsimp only [Pt.U, Pt.locs, Pt.cells, Pt.slots] at X10 l10 y10 z10 st10 hQ10
          subst l10 y10 z10
          obtain ⟨rfl, N10q, e10⟩ := hQ10
          have N10 := Fr.app N0 N10q
          obtain ⟨fs, hr, hrun, hended, hW, hsame⟩ := X10.leave (v := some (.int (1 : Int32))) (fun h => by rw [Bd.returns] at h; cases h)
          refine ⟨_, _, pre9 _ ?_, hrun, hended, _, _, rfl, ?_, ⟨_, rfl⟩, hW, hsame.mono (by decide) (by decide)⟩
          · show Steps p.tables e below (T3.setTop (mkF m 93 #[.val (.long q0), .second, .val (.int p1), .val (.int (0 : Int32)), .val (.ref wS), .val (.long (64 : Int64)), .second, .val (.long (1 : Int64)), .second, .val (.long ((1 : Int64) / (64 : Int64))), .second, .val (.long ((1 : Int64) - ((1 : Int64) / (64 : Int64)) * (64 : Int64))), .second, .unset, .unset] [(.int (lcmpW ((1 : Int64) - ((1 : Int64) / (64 : Int64)) * (64 : Int64)) (0 : Int64)))])) _
            refine XS.ifNo X3.here hx rfl (hb hby at_93) rfl ((if0 _ _).trans (teq ((lw_eq _ _).mpr hc93_8)).2) ?_
            show Steps p.tables e below (T3.setTop (mkF m 96 #[.val (.long q0), .second, .val (.int p1), .val (.int (0 : Int32)), .val (.ref wS), .val (.long (64 : Int64)), .second, .val (.long (1 : Int64)), .second, .val (.long ((1 : Int64) / (64 : Int64))), .second, .val (.long ((1 : Int64) - ((1 : Int64) / (64 : Int64)) * (64 : Int64))), .second, .unset, .unset] [])) _
            refine XS.lload X3.here hx rfl (hb hby at_96) rfl ?_
            show Steps p.tables e below (T3.setTop (mkF m 98 #[.val (.long q0), .second, .val (.int p1), .val (.int (0 : Int32)), .val (.ref wS), .val (.long (64 : Int64)), .second, .val (.long (1 : Int64)), .second, .val (.long ((1 : Int64) / (64 : Int64))), .second, .val (.long ((1 : Int64) - ((1 : Int64) / (64 : Int64)) * (64 : Int64))), .second, .unset, .unset] [(.long ((1 : Int64) / (64 : Int64)))])) _
            refine XS.goto X3.here hx rfl (pc0 := 98) (pc' := 105) rfl (hb hby at_98) (by decide) (by decide) ?_
            show Steps p.tables e below (T3.setTop (mkF m 105 #[.val (.long q0), .second, .val (.int p1), .val (.int (0 : Int32)), .val (.ref wS), .val (.long (64 : Int64)), .second, .val (.long (1 : Int64)), .second, .val (.long ((1 : Int64) / (64 : Int64))), .second, .val (.long ((1 : Int64) - ((1 : Int64) / (64 : Int64)) * (64 : Int64))), .second, .unset, .unset] [(.long ((1 : Int64) / (64 : Int64)))])) _
            refine XS.lstore X3.here hx rfl (hb hby at_105) rfl (l' := #[.val (.long q0), .second, .val (.int p1), .val (.int (0 : Int32)), .val (.ref wS), .val (.long (64 : Int64)), .second, .val (.long (1 : Int64)), .second, .val (.long ((1 : Int64) / (64 : Int64))), .second, .val (.long ((1 : Int64) - ((1 : Int64) / (64 : Int64)) * (64 : Int64))), .second, .val (.long ((1 : Int64) / (64 : Int64))), .second]) rfl ?_
            show Steps p.tables e below (T3.setTop (mkF m 107 #[.val (.long q0), .second, .val (.int p1), .val (.int (0 : Int32)), .val (.ref wS), .val (.long (64 : Int64)), .second, .val (.long (1 : Int64)), .second, .val (.long ((1 : Int64) / (64 : Int64))), .second, .val (.long ((1 : Int64) - ((1 : Int64) / (64 : Int64)) * (64 : Int64))), .second, .val (.long ((1 : Int64) / (64 : Int64))), .second] [])) _
            refine XS.aload X3.here hx rfl (hb hby at_107) rfl rfl ?_
            show Steps p.tables e below (T3.setTop (mkF m 109 #[.val (.long q0), .second, .val (.int p1), .val (.int (0 : Int32)), .val (.ref wS), .val (.long (64 : Int64)), .second, .val (.long (1 : Int64)), .second, .val (.long ((1 : Int64) / (64 : Int64))), .second, .val (.long ((1 : Int64) - ((1 : Int64) / (64 : Int64)) * (64 : Int64))), .second, .val (.long ((1 : Int64) / (64 : Int64))), .second] [(.ref wS)])) _
            refine XS.lload X3.here hx rfl (hb hby at_109) rfl ?_
            show Steps p.tables e below (T3.setTop (mkF m 111 #[.val (.long q0), .second, .val (.int p1), .val (.int (0 : Int32)), .val (.ref wS), .val (.long (64 : Int64)), .second, .val (.long (1 : Int64)), .second, .val (.long ((1 : Int64) / (64 : Int64))), .second, .val (.long ((1 : Int64) - ((1 : Int64) / (64 : Int64)) * (64 : Int64))), .second, .val (.long ((1 : Int64) / (64 : Int64))), .second] [(.long (1 : Int64)), (.ref wS)])) _
            refine st10.trans ?_
            show Steps p.tables e below (T10.setTop (mkF m 114 #[.val (.long q0), .second, .val (.int p1), .val (.int (0 : Int32)), .val (.ref wS), .val (.long (64 : Int64)), .second, .val (.long (1 : Int64)), .second, .val (.long ((1 : Int64) / (64 : Int64))), .second, .val (.long ((1 : Int64) - ((1 : Int64) / (64 : Int64)) * (64 : Int64))), .second, .val (.long ((1 : Int64) / (64 : Int64))), .second] [(.long ((((1 : Int64) - (1 : Int64)) / ((64 : Int32).toInt64)) + (1 : Int64)))])) _
            refine XS.lload X10.here hx rfl (hb hby at_114) rfl ?_
            show Steps p.tables e below (T10.setTop (mkF m 116 #[.val (.long q0), .second, .val (.int p1), .val (.int (0 : Int32)), .val (.ref wS), .val (.long (64 : Int64)), .second, .val (.long (1 : Int64)), .second, .val (.long ((1 : Int64) / (64 : Int64))), .second, .val (.long ((1 : Int64) - ((1 : Int64) / (64 : Int64)) * (64 : Int64))), .second, .val (.long ((1 : Int64) / (64 : Int64))), .second] [(.long ((1 : Int64) / (64 : Int64))), (.long ((((1 : Int64) - (1 : Int64)) / ((64 : Int32).toInt64)) + (1 : Int64)))])) _
            refine XS.lcmp X10.here hx rfl (hb hby at_116) rfl ?_
            show Steps p.tables e below (T10.setTop (mkF m 117 #[.val (.long q0), .second, .val (.int p1), .val (.int (0 : Int32)), .val (.ref wS), .val (.long (64 : Int64)), .second, .val (.long (1 : Int64)), .second, .val (.long ((1 : Int64) / (64 : Int64))), .second, .val (.long ((1 : Int64) - ((1 : Int64) / (64 : Int64)) * (64 : Int64))), .second, .val (.long ((1 : Int64) / (64 : Int64))), .second] [(.int (lcmpW ((((1 : Int64) - (1 : Int64)) / ((64 : Int32).toInt64)) + (1 : Int64)) ((1 : Int64) / (64 : Int64))))])) _
            refine XS.ifNo X10.here hx rfl (hb hby at_117) rfl ((if0 _ _).trans (teq ((lw_eq _ _).mpr (own_w0_64 (by decide : 0 < (1 : Int64).toInt) hc93_8))).2) ?_
            show Steps p.tables e below (T10.setTop (mkF m 120 #[.val (.long q0), .second, .val (.int p1), .val (.int (0 : Int32)), .val (.ref wS), .val (.long (64 : Int64)), .second, .val (.long (1 : Int64)), .second, .val (.long ((1 : Int64) / (64 : Int64))), .second, .val (.long ((1 : Int64) - ((1 : Int64) / (64 : Int64)) * (64 : Int64))), .second, .val (.long ((1 : Int64) / (64 : Int64))), .second] [])) _
            refine XS.iconst X10.here hx rfl (hb hby at_120) ?_
            show Steps p.tables e below (T10.setTop (mkF m 121 #[.val (.long q0), .second, .val (.int p1), .val (.int (0 : Int32)), .val (.ref wS), .val (.long (64 : Int64)), .second, .val (.long (1 : Int64)), .second, .val (.long ((1 : Int64) / (64 : Int64))), .second, .val (.long ((1 : Int64) - ((1 : Int64) / (64 : Int64)) * (64 : Int64))), .second, .val (.long ((1 : Int64) / (64 : Int64))), .second] [(.int (1 : Int32))])) _
            refine XS.goto X10.here hx rfl (pc0 := 121) (pc' := 125) rfl (hb hby at_121) (by decide) (by decide) ?_
            show Steps p.tables e below (T10.setTop (mkF m 125 #[.val (.long q0), .second, .val (.int p1), .val (.int (0 : Int32)), .val (.ref wS), .val (.long (64 : Int64)), .second, .val (.long (1 : Int64)), .second, .val (.long ((1 : Int64) / (64 : Int64))), .second, .val (.long ((1 : Int64) - ((1 : Int64) / (64 : Int64)) * (64 : Int64))), .second, .val (.long ((1 : Int64) / (64 : Int64))), .second] [(.int (1 : Int32))])) _
            exact retN X10 hx (t := .boolean) Bd.returns (by simp) (hb hby at_125) hr
          · show own_Q0 n0 _ T10.heap _
            rw [e10]
            exact ⟨rfl, N10⟩
        · obtain ⟨cq13, kq13, q13a, q13b, q13c⟩ := isOf hZ e3 P_E_wS
          obtain ⟨_, _, ⟨T12, L12, k12, n12⟩, -, X12, ⟨Lc12, hQ12, l12, y12, z12⟩, st12⟩ := X3.virtualBack hx (y := (⟨"com/example/keys_to_bits/keystobits/FilterKind", "words", "(J)J"⟩ : MethodName)) (z := (⟨"com/example/keys_to_bits/keystobits/FilterKind", "words", "(J)J"⟩ : MethodName)) hown (mvT hZ (hw _ (List.mem_of_getElem? (i := 5) rfl))) (mvT hZ (hw _ (List.mem_of_getElem? (i := 6) rfl))) (notFace_of_selects (args := #[]) (mvT hZ (hw _ (List.mem_of_getElem? (i := 8) rfl)))) (mvT hZ (hw _ (List.mem_of_getElem? (i := 8) rfl))) (mvT hZ (hw _ (List.mem_of_getElem? (i := 7) rfl))) (by decide) (backOf (W := 0) (rmW1 l Z a0 hw [] wS (1 : Int64) h0 n0 Z0 P_E_wS P_F_wS_FilterKind_bitsPerCell) hZ (hw _ (List.mem_of_getElem? (i := 9) rfl)) (hw _ (List.mem_of_getElem? (i := 1) rfl)) (by decide) (by decide)) q13a q13c (g := (mkF m 111 #[.val (.long q0), .second, .val (.int p1), .val (.int (0 : Int32)), .val (.ref wS), .val (.long (64 : Int64)), .second, .val (.long (1 : Int64)), .second, .val (.long ((1 : Int64) / (64 : Int64))), .second, .val (.long ((1 : Int64) - ((1 : Int64) / (64 : Int64)) * (64 : Int64))), .second, .val (.long (((1 : Int64) / (64 : Int64)) + (1 : Int64))), .second] [(.long (1 : Int64)), (.ref wS)])) rfl (by rw [hml]; rfl) (Steps.refl _) (argsL := [(.long (1 : Int64))]) (rest := []) (lenOf pd__J_J rfl) rfl (by show 2 * 0 + _ ≤ _; exact Nat.le_of_eq rfl) (hb hby at_111) (fun _ _ => ⟨rfl, e3, (by decide : 0 + 0 ≤ _), (by decide : 0 + 0 ≤ _)⟩)
          dsimp only [Pt.U, Pt.locs, Pt.cells, Pt.slots] at X12 l12 y12 z12 st12 hQ12
          subst l12 y12 z12
          obtain ⟨rfl, N12q, e12⟩ := hQ12
          have N12 := Fr.app N0 N12q
          obtain ⟨fs, hr, hrun, hended, hW, hsame⟩ := X12.leave (v := some (.int (1 : Int32))) (fun h => by rw [Bd.returns] at h; cases h)
          refine ⟨_, _, pre9 _ ?_, hrun, hended, _, _, rfl, ?_, ⟨_, rfl⟩, hW, hsame.mono (by decide) (by decide)⟩
          · show Steps p.tables e below (T3.setTop (mkF m 93 #[.val (.long q0), .second, .val (.int p1), .val (.int (0 : Int32)), .val (.ref wS), .val (.long (64 : Int64)), .second, .val (.long (1 : Int64)), .second, .val (.long ((1 : Int64) / (64 : Int64))), .second, .val (.long ((1 : Int64) - ((1 : Int64) / (64 : Int64)) * (64 : Int64))), .second, .unset, .unset] [(.int (lcmpW ((1 : Int64) - ((1 : Int64) / (64 : Int64)) * (64 : Int64)) (0 : Int64)))])) _
            refine XS.ifYes X3.here hx rfl (pc0 := 93) (pc' := 101) rfl (hb hby at_93) rfl ((if0 _ _).trans (feq (fun qq => hc93_8 ((lw_eq _ _).mp qq))).2) (by decide) (by decide) ?_
            show Steps p.tables e below (T3.setTop (mkF m 101 #[.val (.long q0), .second, .val (.int p1), .val (.int (0 : Int32)), .val (.ref wS), .val (.long (64 : Int64)), .second, .val (.long (1 : Int64)), .second, .val (.long ((1 : Int64) / (64 : Int64))), .second, .val (.long ((1 : Int64) - ((1 : Int64) / (64 : Int64)) * (64 : Int64))), .second, .unset, .unset] [])) _
            refine XS.lload X3.here hx rfl (hb hby at_101) rfl ?_
            show Steps p.tables e below (T3.setTop (mkF m 103 #[.val (.long q0), .second, .val (.int p1), .val (.int (0 : Int32)), .val (.ref wS), .val (.long (64 : Int64)), .second, .val (.long (1 : Int64)), .second, .val (.long ((1 : Int64) / (64 : Int64))), .second, .val (.long ((1 : Int64) - ((1 : Int64) / (64 : Int64)) * (64 : Int64))), .second, .unset, .unset] [(.long ((1 : Int64) / (64 : Int64)))])) _
            refine XS.lconst X3.here hx rfl (hb hby at_103) ?_
            show Steps p.tables e below (T3.setTop (mkF m 104 #[.val (.long q0), .second, .val (.int p1), .val (.int (0 : Int32)), .val (.ref wS), .val (.long (64 : Int64)), .second, .val (.long (1 : Int64)), .second, .val (.long ((1 : Int64) / (64 : Int64))), .second, .val (.long ((1 : Int64) - ((1 : Int64) / (64 : Int64)) * (64 : Int64))), .second, .unset, .unset] [(.long (1 : Int64)), (.long ((1 : Int64) / (64 : Int64)))])) _
            refine XS.ladd X3.here hx rfl (hb hby at_104) rfl ?_
            show Steps p.tables e below (T3.setTop (mkF m 105 #[.val (.long q0), .second, .val (.int p1), .val (.int (0 : Int32)), .val (.ref wS), .val (.long (64 : Int64)), .second, .val (.long (1 : Int64)), .second, .val (.long ((1 : Int64) / (64 : Int64))), .second, .val (.long ((1 : Int64) - ((1 : Int64) / (64 : Int64)) * (64 : Int64))), .second, .unset, .unset] [(.long (((1 : Int64) / (64 : Int64)) + (1 : Int64)))])) _
            refine XS.lstore X3.here hx rfl (hb hby at_105) rfl (l' := #[.val (.long q0), .second, .val (.int p1), .val (.int (0 : Int32)), .val (.ref wS), .val (.long (64 : Int64)), .second, .val (.long (1 : Int64)), .second, .val (.long ((1 : Int64) / (64 : Int64))), .second, .val (.long ((1 : Int64) - ((1 : Int64) / (64 : Int64)) * (64 : Int64))), .second, .val (.long (((1 : Int64) / (64 : Int64)) + (1 : Int64))), .second]) rfl ?_
            show Steps p.tables e below (T3.setTop (mkF m 107 #[.val (.long q0), .second, .val (.int p1), .val (.int (0 : Int32)), .val (.ref wS), .val (.long (64 : Int64)), .second, .val (.long (1 : Int64)), .second, .val (.long ((1 : Int64) / (64 : Int64))), .second, .val (.long ((1 : Int64) - ((1 : Int64) / (64 : Int64)) * (64 : Int64))), .second, .val (.long (((1 : Int64) / (64 : Int64)) + (1 : Int64))), .second] [])) _
            refine XS.aload X3.here hx rfl (hb hby at_107) rfl rfl ?_
            show Steps p.tables e below (T3.setTop (mkF m 109 #[.val (.long q0), .second, .val (.int p1), .val (.int (0 : Int32)), .val (.ref wS), .val (.long (64 : Int64)), .second, .val (.long (1 : Int64)), .second, .val (.long ((1 : Int64) / (64 : Int64))), .second, .val (.long ((1 : Int64) - ((1 : Int64) / (64 : Int64)) * (64 : Int64))), .second, .val (.long (((1 : Int64) / (64 : Int64)) + (1 : Int64))), .second] [(.ref wS)])) _
            refine XS.lload X3.here hx rfl (hb hby at_109) rfl ?_
            show Steps p.tables e below (T3.setTop (mkF m 111 #[.val (.long q0), .second, .val (.int p1), .val (.int (0 : Int32)), .val (.ref wS), .val (.long (64 : Int64)), .second, .val (.long (1 : Int64)), .second, .val (.long ((1 : Int64) / (64 : Int64))), .second, .val (.long ((1 : Int64) - ((1 : Int64) / (64 : Int64)) * (64 : Int64))), .second, .val (.long (((1 : Int64) / (64 : Int64)) + (1 : Int64))), .second] [(.long (1 : Int64)), (.ref wS)])) _
            refine st12.trans ?_
            show Steps p.tables e below (T12.setTop (mkF m 114 #[.val (.long q0), .second, .val (.int p1), .val (.int (0 : Int32)), .val (.ref wS), .val (.long (64 : Int64)), .second, .val (.long (1 : Int64)), .second, .val (.long ((1 : Int64) / (64 : Int64))), .second, .val (.long ((1 : Int64) - ((1 : Int64) / (64 : Int64)) * (64 : Int64))), .second, .val (.long (((1 : Int64) / (64 : Int64)) + (1 : Int64))), .second] [(.long ((((1 : Int64) - (1 : Int64)) / ((64 : Int32).toInt64)) + (1 : Int64)))])) _
            refine XS.lload X12.here hx rfl (hb hby at_114) rfl ?_
            show Steps p.tables e below (T12.setTop (mkF m 116 #[.val (.long q0), .second, .val (.int p1), .val (.int (0 : Int32)), .val (.ref wS), .val (.long (64 : Int64)), .second, .val (.long (1 : Int64)), .second, .val (.long ((1 : Int64) / (64 : Int64))), .second, .val (.long ((1 : Int64) - ((1 : Int64) / (64 : Int64)) * (64 : Int64))), .second, .val (.long (((1 : Int64) / (64 : Int64)) + (1 : Int64))), .second] [(.long (((1 : Int64) / (64 : Int64)) + (1 : Int64))), (.long ((((1 : Int64) - (1 : Int64)) / ((64 : Int32).toInt64)) + (1 : Int64)))])) _
            refine XS.lcmp X12.here hx rfl (hb hby at_116) rfl ?_
            show Steps p.tables e below (T12.setTop (mkF m 117 #[.val (.long q0), .second, .val (.int p1), .val (.int (0 : Int32)), .val (.ref wS), .val (.long (64 : Int64)), .second, .val (.long (1 : Int64)), .second, .val (.long ((1 : Int64) / (64 : Int64))), .second, .val (.long ((1 : Int64) - ((1 : Int64) / (64 : Int64)) * (64 : Int64))), .second, .val (.long (((1 : Int64) / (64 : Int64)) + (1 : Int64))), .second] [(.int (lcmpW ((((1 : Int64) - (1 : Int64)) / ((64 : Int32).toInt64)) + (1 : Int64)) (((1 : Int64) / (64 : Int64)) + (1 : Int64))))])) _
            refine XS.ifNo X12.here hx rfl (hb hby at_117) rfl ((if0 _ _).trans (teq ((lw_eq _ _).mpr (own_w1_64 (by decide : 0 < (1 : Int64).toInt) hc93_8))).2) ?_
            show Steps p.tables e below (T12.setTop (mkF m 120 #[.val (.long q0), .second, .val (.int p1), .val (.int (0 : Int32)), .val (.ref wS), .val (.long (64 : Int64)), .second, .val (.long (1 : Int64)), .second, .val (.long ((1 : Int64) / (64 : Int64))), .second, .val (.long ((1 : Int64) - ((1 : Int64) / (64 : Int64)) * (64 : Int64))), .second, .val (.long (((1 : Int64) / (64 : Int64)) + (1 : Int64))), .second] [])) _
            refine XS.iconst X12.here hx rfl (hb hby at_120) ?_
            show Steps p.tables e below (T12.setTop (mkF m 121 #[.val (.long q0), .second, .val (.int p1), .val (.int (0 : Int32)), .val (.ref wS), .val (.long (64 : Int64)), .second, .val (.long (1 : Int64)), .second, .val (.long ((1 : Int64) / (64 : Int64))), .second, .val (.long ((1 : Int64) - ((1 : Int64) / (64 : Int64)) * (64 : Int64))), .second, .val (.long (((1 : Int64) / (64 : Int64)) + (1 : Int64))), .second] [(.int (1 : Int32))])) _
            refine XS.goto X12.here hx rfl (pc0 := 121) (pc' := 125) rfl (hb hby at_121) (by decide) (by decide) ?_
            show Steps p.tables e below (T12.setTop (mkF m 125 #[.val (.long q0), .second, .val (.int p1), .val (.int (0 : Int32)), .val (.ref wS), .val (.long (64 : Int64)), .second, .val (.long (1 : Int64)), .second, .val (.long ((1 : Int64) / (64 : Int64))), .second, .val (.long ((1 : Int64) - ((1 : Int64) / (64 : Int64)) * (64 : Int64))), .second, .val (.long (((1 : Int64) / (64 : Int64)) + (1 : Int64))), .second] [(.int (1 : Int32))])) _
            exact retN X12 hx (t := .boolean) Bd.returns (by simp) (hb hby at_125) hr
          · show own_Q0 n0 _ T12.heap _
            rw [e12]
            exact ⟨rfl, N12⟩
      · have pre15 : ∀ t, Steps p.tables e below (T3.setTop (mkF m 93 #[.val (.long q0), .second, .val (.int p1), .val (.int (0 : Int32)), .val (.ref wS), .val (.long (64 : Int64)), .second, .val (.long (q0 &&& (9223372036854775807 : Int64))), .second, .val (.long ((q0 &&& (9223372036854775807 : Int64)) / (64 : Int64))), .second, .val (.long ((q0 &&& (9223372036854775807 : Int64)) - ((q0 &&& (9223372036854775807 : Int64)) / (64 : Int64)) * (64 : Int64))), .second, .unset, .unset] [(.int (lcmpW ((q0 &&& (9223372036854775807 : Int64)) - ((q0 &&& (9223372036854775807 : Int64)) / (64 : Int64)) * (64 : Int64)) (0 : Int64)))])) t → Steps p.tables e below (s₁.setTop (entryFrame m #[(.long q0), (.int p1)] maxLocals)) t := fun t kt => pre7 t (by
            show Steps p.tables e below (T3.setTop (mkF m 69 #[.val (.long q0), .second, .val (.int p1), .val (.int (0 : Int32)), .val (.ref wS), .val (.long (64 : Int64)), .second, .val (.long (q0 &&& (9223372036854775807 : Int64))), .second, .unset, .unset, .unset, .unset, .unset, .unset] [(.int (lcmpW (q0 &&& (9223372036854775807 : Int64)) (0 : Int64)))])) _
            refine XS.ifYes X3.here hx rfl (pc0 := 69) (pc' := 75) rfl (hb hby at_69) rfl ((if0 _ _).trans (feq (fun qq => hc69_6 ((lw_eq _ _).mp qq))).2) (by decide) (by decide) ?_
            show Steps p.tables e below (T3.setTop (mkF m 75 #[.val (.long q0), .second, .val (.int p1), .val (.int (0 : Int32)), .val (.ref wS), .val (.long (64 : Int64)), .second, .val (.long (q0 &&& (9223372036854775807 : Int64))), .second, .unset, .unset, .unset, .unset, .unset, .unset] [])) _
            refine XS.lload X3.here hx rfl (hb hby at_75) rfl ?_
            show Steps p.tables e below (T3.setTop (mkF m 77 #[.val (.long q0), .second, .val (.int p1), .val (.int (0 : Int32)), .val (.ref wS), .val (.long (64 : Int64)), .second, .val (.long (q0 &&& (9223372036854775807 : Int64))), .second, .unset, .unset, .unset, .unset, .unset, .unset] [(.long (q0 &&& (9223372036854775807 : Int64)))])) _
            refine XS.lload X3.here hx rfl (hb hby at_77) rfl ?_
            show Steps p.tables e below (T3.setTop (mkF m 79 #[.val (.long q0), .second, .val (.int p1), .val (.int (0 : Int32)), .val (.ref wS), .val (.long (64 : Int64)), .second, .val (.long (q0 &&& (9223372036854775807 : Int64))), .second, .unset, .unset, .unset, .unset, .unset, .unset] [(.long (64 : Int64)), (.long (q0 &&& (9223372036854775807 : Int64)))])) _
            refine XS.ldiv X3.here hx rfl (hb hby at_79) rfl (by decide : ¬ ((64 : Int64) = (0 : Int64))) ?_
            show Steps p.tables e below (T3.setTop (mkF m 80 #[.val (.long q0), .second, .val (.int p1), .val (.int (0 : Int32)), .val (.ref wS), .val (.long (64 : Int64)), .second, .val (.long (q0 &&& (9223372036854775807 : Int64))), .second, .unset, .unset, .unset, .unset, .unset, .unset] [(.long ((q0 &&& (9223372036854775807 : Int64)) / (64 : Int64)))])) _
            refine XS.lstore X3.here hx rfl (hb hby at_80) rfl (l' := #[.val (.long q0), .second, .val (.int p1), .val (.int (0 : Int32)), .val (.ref wS), .val (.long (64 : Int64)), .second, .val (.long (q0 &&& (9223372036854775807 : Int64))), .second, .val (.long ((q0 &&& (9223372036854775807 : Int64)) / (64 : Int64))), .second, .unset, .unset, .unset, .unset]) rfl ?_
            show Steps p.tables e below (T3.setTop (mkF m 82 #[.val (.long q0), .second, .val (.int p1), .val (.int (0 : Int32)), .val (.ref wS), .val (.long (64 : Int64)), .second, .val (.long (q0 &&& (9223372036854775807 : Int64))), .second, .val (.long ((q0 &&& (9223372036854775807 : Int64)) / (64 : Int64))), .second, .unset, .unset, .unset, .unset] [])) _
            refine XS.lload X3.here hx rfl (hb hby at_82) rfl ?_
            show Steps p.tables e below (T3.setTop (mkF m 84 #[.val (.long q0), .second, .val (.int p1), .val (.int (0 : Int32)), .val (.ref wS), .val (.long (64 : Int64)), .second, .val (.long (q0 &&& (9223372036854775807 : Int64))), .second, .val (.long ((q0 &&& (9223372036854775807 : Int64)) / (64 : Int64))), .second, .unset, .unset, .unset, .unset] [(.long (q0 &&& (9223372036854775807 : Int64)))])) _
            refine XS.lload X3.here hx rfl (hb hby at_84) rfl ?_
            show Steps p.tables e below (T3.setTop (mkF m 86 #[.val (.long q0), .second, .val (.int p1), .val (.int (0 : Int32)), .val (.ref wS), .val (.long (64 : Int64)), .second, .val (.long (q0 &&& (9223372036854775807 : Int64))), .second, .val (.long ((q0 &&& (9223372036854775807 : Int64)) / (64 : Int64))), .second, .unset, .unset, .unset, .unset] [(.long (64 : Int64)), (.long (q0 &&& (9223372036854775807 : Int64)))])) _
            refine XS.lrem X3.here hx rfl (hb hby at_86) rfl (by decide : ¬ ((64 : Int64) = (0 : Int64))) ?_
            show Steps p.tables e below (T3.setTop (mkF m 87 #[.val (.long q0), .second, .val (.int p1), .val (.int (0 : Int32)), .val (.ref wS), .val (.long (64 : Int64)), .second, .val (.long (q0 &&& (9223372036854775807 : Int64))), .second, .val (.long ((q0 &&& (9223372036854775807 : Int64)) / (64 : Int64))), .second, .unset, .unset, .unset, .unset] [(.long ((q0 &&& (9223372036854775807 : Int64)) - ((q0 &&& (9223372036854775807 : Int64)) / (64 : Int64)) * (64 : Int64)))])) _
            refine XS.lstore X3.here hx rfl (hb hby at_87) rfl (l' := #[.val (.long q0), .second, .val (.int p1), .val (.int (0 : Int32)), .val (.ref wS), .val (.long (64 : Int64)), .second, .val (.long (q0 &&& (9223372036854775807 : Int64))), .second, .val (.long ((q0 &&& (9223372036854775807 : Int64)) / (64 : Int64))), .second, .val (.long ((q0 &&& (9223372036854775807 : Int64)) - ((q0 &&& (9223372036854775807 : Int64)) / (64 : Int64)) * (64 : Int64))), .second, .unset, .unset]) rfl ?_
            show Steps p.tables e below (T3.setTop (mkF m 89 #[.val (.long q0), .second, .val (.int p1), .val (.int (0 : Int32)), .val (.ref wS), .val (.long (64 : Int64)), .second, .val (.long (q0 &&& (9223372036854775807 : Int64))), .second, .val (.long ((q0 &&& (9223372036854775807 : Int64)) / (64 : Int64))), .second, .val (.long ((q0 &&& (9223372036854775807 : Int64)) - ((q0 &&& (9223372036854775807 : Int64)) / (64 : Int64)) * (64 : Int64))), .second, .unset, .unset] [])) _
            refine XS.lload X3.here hx rfl (hb hby at_89) rfl ?_
            show Steps p.tables e below (T3.setTop (mkF m 91 #[.val (.long q0), .second, .val (.int p1), .val (.int (0 : Int32)), .val (.ref wS), .val (.long (64 : Int64)), .second, .val (.long (q0 &&& (9223372036854775807 : Int64))), .second, .val (.long ((q0 &&& (9223372036854775807 : Int64)) / (64 : Int64))), .second, .val (.long ((q0 &&& (9223372036854775807 : Int64)) - ((q0 &&& (9223372036854775807 : Int64)) / (64 : Int64)) * (64 : Int64))), .second, .unset, .unset] [(.long ((q0 &&& (9223372036854775807 : Int64)) - ((q0 &&& (9223372036854775807 : Int64)) / (64 : Int64)) * (64 : Int64)))])) _
            refine XS.lconst X3.here hx rfl (hb hby at_91) ?_
            show Steps p.tables e below (T3.setTop (mkF m 92 #[.val (.long q0), .second, .val (.int p1), .val (.int (0 : Int32)), .val (.ref wS), .val (.long (64 : Int64)), .second, .val (.long (q0 &&& (9223372036854775807 : Int64))), .second, .val (.long ((q0 &&& (9223372036854775807 : Int64)) / (64 : Int64))), .second, .val (.long ((q0 &&& (9223372036854775807 : Int64)) - ((q0 &&& (9223372036854775807 : Int64)) / (64 : Int64)) * (64 : Int64))), .second, .unset, .unset] [(.long (0 : Int64)), (.long ((q0 &&& (9223372036854775807 : Int64)) - ((q0 &&& (9223372036854775807 : Int64)) / (64 : Int64)) * (64 : Int64)))])) _
            refine XS.lcmp X3.here hx rfl (hb hby at_92) rfl ?_
            exact kt)
        by_cases hc93_14 : ((q0 &&& (9223372036854775807 : Int64)) - ((q0 &&& (9223372036854775807 : Int64)) / (64 : Int64)) * (64 : Int64)) = (0 : Int64)
        · obtain ⟨cq17, kq17, q17a, q17b, q17c⟩ := isOf hZ e3 P_E_wS
          obtain ⟨_, _, ⟨T16, L16, k16, n16⟩, -, X16, ⟨Lc16, hQ16, l16, y16, z16⟩, st16⟩ := X3.virtualBack hx (y := (⟨"com/example/keys_to_bits/keystobits/FilterKind", "words", "(J)J"⟩ : MethodName)) (z := (⟨"com/example/keys_to_bits/keystobits/FilterKind", "words", "(J)J"⟩ : MethodName)) hown (mvT hZ (hw _ (List.mem_of_getElem? (i := 5) rfl))) (mvT hZ (hw _ (List.mem_of_getElem? (i := 6) rfl))) (notFace_of_selects (args := #[]) (mvT hZ (hw _ (List.mem_of_getElem? (i := 8) rfl)))) (mvT hZ (hw _ (List.mem_of_getElem? (i := 8) rfl))) (mvT hZ (hw _ (List.mem_of_getElem? (i := 7) rfl))) (by decide) (backOf (W := 0) (rmW1 l Z a0 hw [] wS (q0 &&& (9223372036854775807 : Int64)) h0 n0 Z0 P_E_wS P_F_wS_FilterKind_bitsPerCell) hZ (hw _ (List.mem_of_getElem? (i := 9) rfl)) (hw _ (List.mem_of_getElem? (i := 1) rfl)) (by decide) (by decide)) q17a q17c (g := (mkF m 111 #[.val (.long q0), .second, .val (.int p1), .val (.int (0 : Int32)), .val (.ref wS), .val (.long (64 : Int64)), .second, .val (.long (q0 &&& (9223372036854775807 : Int64))), .second, .val (.long ((q0 &&& (9223372036854775807 : Int64)) / (64 : Int64))), .second, .val (.long ((q0 &&& (9223372036854775807 : Int64)) - ((q0 &&& (9223372036854775807 : Int64)) / (64 : Int64)) * (64 : Int64))), .second, .val (.long ((q0 &&& (9223372036854775807 : Int64)) / (64 : Int64))), .second] [(.long (q0 &&& (9223372036854775807 : Int64))), (.ref wS)])) rfl (by rw [hml]; rfl) (Steps.refl _) (argsL := [(.long (q0 &&& (9223372036854775807 : Int64)))]) (rest := []) (lenOf pd__J_J rfl) rfl (by show 2 * 0 + _ ≤ _; exact Nat.le_of_eq rfl) (hb hby at_111) (fun _ _ => ⟨rfl, e3, (by decide : 0 + 0 ≤ _), (by decide : 0 + 0 ≤ _)⟩)
          dsimp only [Pt.U, Pt.locs, Pt.cells, Pt.slots] at X16 l16 y16 z16 st16 hQ16
          subst l16 y16 z16
          obtain ⟨rfl, N16q, e16⟩ := hQ16
          have N16 := Fr.app N0 N16q
          obtain ⟨fs, hr, hrun, hended, hW, hsame⟩ := X16.leave (v := some (.int (1 : Int32))) (fun h => by rw [Bd.returns] at h; cases h)
          refine ⟨_, _, pre15 _ ?_, hrun, hended, _, _, rfl, ?_, ⟨_, rfl⟩, hW, hsame.mono (by decide) (by decide)⟩
          · show Steps p.tables e below (T3.setTop (mkF m 93 #[.val (.long q0), .second, .val (.int p1), .val (.int (0 : Int32)), .val (.ref wS), .val (.long (64 : Int64)), .second, .val (.long (q0 &&& (9223372036854775807 : Int64))), .second, .val (.long ((q0 &&& (9223372036854775807 : Int64)) / (64 : Int64))), .second, .val (.long ((q0 &&& (9223372036854775807 : Int64)) - ((q0 &&& (9223372036854775807 : Int64)) / (64 : Int64)) * (64 : Int64))), .second, .unset, .unset] [(.int (lcmpW ((q0 &&& (9223372036854775807 : Int64)) - ((q0 &&& (9223372036854775807 : Int64)) / (64 : Int64)) * (64 : Int64)) (0 : Int64)))])) _
            refine XS.ifNo X3.here hx rfl (hb hby at_93) rfl ((if0 _ _).trans (teq ((lw_eq _ _).mpr hc93_14)).2) ?_
            show Steps p.tables e below (T3.setTop (mkF m 96 #[.val (.long q0), .second, .val (.int p1), .val (.int (0 : Int32)), .val (.ref wS), .val (.long (64 : Int64)), .second, .val (.long (q0 &&& (9223372036854775807 : Int64))), .second, .val (.long ((q0 &&& (9223372036854775807 : Int64)) / (64 : Int64))), .second, .val (.long ((q0 &&& (9223372036854775807 : Int64)) - ((q0 &&& (9223372036854775807 : Int64)) / (64 : Int64)) * (64 : Int64))), .second, .unset, .unset] [])) _
            refine XS.lload X3.here hx rfl (hb hby at_96) rfl ?_
            show Steps p.tables e below (T3.setTop (mkF m 98 #[.val (.long q0), .second, .val (.int p1), .val (.int (0 : Int32)), .val (.ref wS), .val (.long (64 : Int64)), .second, .val (.long (q0 &&& (9223372036854775807 : Int64))), .second, .val (.long ((q0 &&& (9223372036854775807 : Int64)) / (64 : Int64))), .second, .val (.long ((q0 &&& (9223372036854775807 : Int64)) - ((q0 &&& (9223372036854775807 : Int64)) / (64 : Int64)) * (64 : Int64))), .second, .unset, .unset] [(.long ((q0 &&& (9223372036854775807 : Int64)) / (64 : Int64)))])) _
            refine XS.goto X3.here hx rfl (pc0 := 98) (pc' := 105) rfl (hb hby at_98) (by decide) (by decide) ?_
            show Steps p.tables e below (T3.setTop (mkF m 105 #[.val (.long q0), .second, .val (.int p1), .val (.int (0 : Int32)), .val (.ref wS), .val (.long (64 : Int64)), .second, .val (.long (q0 &&& (9223372036854775807 : Int64))), .second, .val (.long ((q0 &&& (9223372036854775807 : Int64)) / (64 : Int64))), .second, .val (.long ((q0 &&& (9223372036854775807 : Int64)) - ((q0 &&& (9223372036854775807 : Int64)) / (64 : Int64)) * (64 : Int64))), .second, .unset, .unset] [(.long ((q0 &&& (9223372036854775807 : Int64)) / (64 : Int64)))])) _
            refine XS.lstore X3.here hx rfl (hb hby at_105) rfl (l' := #[.val (.long q0), .second, .val (.int p1), .val (.int (0 : Int32)), .val (.ref wS), .val (.long (64 : Int64)), .second, .val (.long (q0 &&& (9223372036854775807 : Int64))), .second, .val (.long ((q0 &&& (9223372036854775807 : Int64)) / (64 : Int64))), .second, .val (.long ((q0 &&& (9223372036854775807 : Int64)) - ((q0 &&& (9223372036854775807 : Int64)) / (64 : Int64)) * (64 : Int64))), .second, .val (.long ((q0 &&& (9223372036854775807 : Int64)) / (64 : Int64))), .second]) rfl ?_
            show Steps p.tables e below (T3.setTop (mkF m 107 #[.val (.long q0), .second, .val (.int p1), .val (.int (0 : Int32)), .val (.ref wS), .val (.long (64 : Int64)), .second, .val (.long (q0 &&& (9223372036854775807 : Int64))), .second, .val (.long ((q0 &&& (9223372036854775807 : Int64)) / (64 : Int64))), .second, .val (.long ((q0 &&& (9223372036854775807 : Int64)) - ((q0 &&& (9223372036854775807 : Int64)) / (64 : Int64)) * (64 : Int64))), .second, .val (.long ((q0 &&& (9223372036854775807 : Int64)) / (64 : Int64))), .second] [])) _
            refine XS.aload X3.here hx rfl (hb hby at_107) rfl rfl ?_
            show Steps p.tables e below (T3.setTop (mkF m 109 #[.val (.long q0), .second, .val (.int p1), .val (.int (0 : Int32)), .val (.ref wS), .val (.long (64 : Int64)), .second, .val (.long (q0 &&& (9223372036854775807 : Int64))), .second, .val (.long ((q0 &&& (9223372036854775807 : Int64)) / (64 : Int64))), .second, .val (.long ((q0 &&& (9223372036854775807 : Int64)) - ((q0 &&& (9223372036854775807 : Int64)) / (64 : Int64)) * (64 : Int64))), .second, .val (.long ((q0 &&& (9223372036854775807 : Int64)) / (64 : Int64))), .second] [(.ref wS)])) _
            refine XS.lload X3.here hx rfl (hb hby at_109) rfl ?_
            show Steps p.tables e below (T3.setTop (mkF m 111 #[.val (.long q0), .second, .val (.int p1), .val (.int (0 : Int32)), .val (.ref wS), .val (.long (64 : Int64)), .second, .val (.long (q0 &&& (9223372036854775807 : Int64))), .second, .val (.long ((q0 &&& (9223372036854775807 : Int64)) / (64 : Int64))), .second, .val (.long ((q0 &&& (9223372036854775807 : Int64)) - ((q0 &&& (9223372036854775807 : Int64)) / (64 : Int64)) * (64 : Int64))), .second, .val (.long ((q0 &&& (9223372036854775807 : Int64)) / (64 : Int64))), .second] [(.long (q0 &&& (9223372036854775807 : Int64))), (.ref wS)])) _
            refine st16.trans ?_
            show Steps p.tables e below (T16.setTop (mkF m 114 #[.val (.long q0), .second, .val (.int p1), .val (.int (0 : Int32)), .val (.ref wS), .val (.long (64 : Int64)), .second, .val (.long (q0 &&& (9223372036854775807 : Int64))), .second, .val (.long ((q0 &&& (9223372036854775807 : Int64)) / (64 : Int64))), .second, .val (.long ((q0 &&& (9223372036854775807 : Int64)) - ((q0 &&& (9223372036854775807 : Int64)) / (64 : Int64)) * (64 : Int64))), .second, .val (.long ((q0 &&& (9223372036854775807 : Int64)) / (64 : Int64))), .second] [(.long ((((q0 &&& (9223372036854775807 : Int64)) - (1 : Int64)) / ((64 : Int32).toInt64)) + (1 : Int64)))])) _
            refine XS.lload X16.here hx rfl (hb hby at_114) rfl ?_
            show Steps p.tables e below (T16.setTop (mkF m 116 #[.val (.long q0), .second, .val (.int p1), .val (.int (0 : Int32)), .val (.ref wS), .val (.long (64 : Int64)), .second, .val (.long (q0 &&& (9223372036854775807 : Int64))), .second, .val (.long ((q0 &&& (9223372036854775807 : Int64)) / (64 : Int64))), .second, .val (.long ((q0 &&& (9223372036854775807 : Int64)) - ((q0 &&& (9223372036854775807 : Int64)) / (64 : Int64)) * (64 : Int64))), .second, .val (.long ((q0 &&& (9223372036854775807 : Int64)) / (64 : Int64))), .second] [(.long ((q0 &&& (9223372036854775807 : Int64)) / (64 : Int64))), (.long ((((q0 &&& (9223372036854775807 : Int64)) - (1 : Int64)) / ((64 : Int32).toInt64)) + (1 : Int64)))])) _
            refine XS.lcmp X16.here hx rfl (hb hby at_116) rfl ?_
            show Steps p.tables e below (T16.setTop (mkF m 117 #[.val (.long q0), .second, .val (.int p1), .val (.int (0 : Int32)), .val (.ref wS), .val (.long (64 : Int64)), .second, .val (.long (q0 &&& (9223372036854775807 : Int64))), .second, .val (.long ((q0 &&& (9223372036854775807 : Int64)) / (64 : Int64))), .second, .val (.long ((q0 &&& (9223372036854775807 : Int64)) - ((q0 &&& (9223372036854775807 : Int64)) / (64 : Int64)) * (64 : Int64))), .second, .val (.long ((q0 &&& (9223372036854775807 : Int64)) / (64 : Int64))), .second] [(.int (lcmpW ((((q0 &&& (9223372036854775807 : Int64)) - (1 : Int64)) / ((64 : Int32).toInt64)) + (1 : Int64)) ((q0 &&& (9223372036854775807 : Int64)) / (64 : Int64))))])) _
            refine XS.ifNo X16.here hx rfl (hb hby at_117) rfl ((if0 _ _).trans (teq ((lw_eq _ _).mpr (own_w0_64 (own_cp2 hc69_6) hc93_14))).2) ?_
            show Steps p.tables e below (T16.setTop (mkF m 120 #[.val (.long q0), .second, .val (.int p1), .val (.int (0 : Int32)), .val (.ref wS), .val (.long (64 : Int64)), .second, .val (.long (q0 &&& (9223372036854775807 : Int64))), .second, .val (.long ((q0 &&& (9223372036854775807 : Int64)) / (64 : Int64))), .second, .val (.long ((q0 &&& (9223372036854775807 : Int64)) - ((q0 &&& (9223372036854775807 : Int64)) / (64 : Int64)) * (64 : Int64))), .second, .val (.long ((q0 &&& (9223372036854775807 : Int64)) / (64 : Int64))), .second] [])) _
            refine XS.iconst X16.here hx rfl (hb hby at_120) ?_
            show Steps p.tables e below (T16.setTop (mkF m 121 #[.val (.long q0), .second, .val (.int p1), .val (.int (0 : Int32)), .val (.ref wS), .val (.long (64 : Int64)), .second, .val (.long (q0 &&& (9223372036854775807 : Int64))), .second, .val (.long ((q0 &&& (9223372036854775807 : Int64)) / (64 : Int64))), .second, .val (.long ((q0 &&& (9223372036854775807 : Int64)) - ((q0 &&& (9223372036854775807 : Int64)) / (64 : Int64)) * (64 : Int64))), .second, .val (.long ((q0 &&& (9223372036854775807 : Int64)) / (64 : Int64))), .second] [(.int (1 : Int32))])) _
            refine XS.goto X16.here hx rfl (pc0 := 121) (pc' := 125) rfl (hb hby at_121) (by decide) (by decide) ?_
            show Steps p.tables e below (T16.setTop (mkF m 125 #[.val (.long q0), .second, .val (.int p1), .val (.int (0 : Int32)), .val (.ref wS), .val (.long (64 : Int64)), .second, .val (.long (q0 &&& (9223372036854775807 : Int64))), .second, .val (.long ((q0 &&& (9223372036854775807 : Int64)) / (64 : Int64))), .second, .val (.long ((q0 &&& (9223372036854775807 : Int64)) - ((q0 &&& (9223372036854775807 : Int64)) / (64 : Int64)) * (64 : Int64))), .second, .val (.long ((q0 &&& (9223372036854775807 : Int64)) / (64 : Int64))), .second] [(.int (1 : Int32))])) _
            exact retN X16 hx (t := .boolean) Bd.returns (by simp) (hb hby at_125) hr
          · show own_Q0 n0 _ T16.heap _
            rw [e16]
            exact ⟨rfl, N16⟩
        · obtain ⟨cq19, kq19, q19a, q19b, q19c⟩ := isOf hZ e3 P_E_wS
          obtain ⟨_, _, ⟨T18, L18, k18, n18⟩, -, X18, ⟨Lc18, hQ18, l18, y18, z18⟩, st18⟩ := X3.virtualBack hx (y := (⟨"com/example/keys_to_bits/keystobits/FilterKind", "words", "(J)J"⟩ : MethodName)) (z := (⟨"com/example/keys_to_bits/keystobits/FilterKind", "words", "(J)J"⟩ : MethodName)) hown (mvT hZ (hw _ (List.mem_of_getElem? (i := 5) rfl))) (mvT hZ (hw _ (List.mem_of_getElem? (i := 6) rfl))) (notFace_of_selects (args := #[]) (mvT hZ (hw _ (List.mem_of_getElem? (i := 8) rfl)))) (mvT hZ (hw _ (List.mem_of_getElem? (i := 8) rfl))) (mvT hZ (hw _ (List.mem_of_getElem? (i := 7) rfl))) (by decide) (backOf (W := 0) (rmW1 l Z a0 hw [] wS (q0 &&& (9223372036854775807 : Int64)) h0 n0 Z0 P_E_wS P_F_wS_FilterKind_bitsPerCell) hZ (hw _ (List.mem_of_getElem? (i := 9) rfl)) (hw _ (List.mem_of_getElem? (i := 1) rfl)) (by decide) (by decide)) q19a q19c (g := (mkF m 111 #[.val (.long q0), .second, .val (.int p1), .val (.int (0 : Int32)), .val (.ref wS), .val (.long (64 : Int64)), .second, .val (.long (q0 &&& (9223372036854775807 : Int64))), .second, .val (.long ((q0 &&& (9223372036854775807 : Int64)) / (64 : Int64))), .second, .val (.long ((q0 &&& (9223372036854775807 : Int64)) - ((q0 &&& (9223372036854775807 : Int64)) / (64 : Int64)) * (64 : Int64))), .second, .val (.long (((q0 &&& (9223372036854775807 : Int64)) / (64 : Int64)) + (1 : Int64))), .second] [(.long (q0 &&& (9223372036854775807 : Int64))), (.ref wS)])) rfl (by rw [hml]; rfl) (Steps.refl _) (argsL := [(.long (q0 &&& (9223372036854775807 : Int64)))]) (rest := []) (lenOf pd__J_J rfl) rfl (by show 2 * 0 + _ ≤ _; exact Nat.le_of_eq rfl) (hb hby at_111) (fun _ _ => ⟨rfl, e3, (by decide : 0 + 0 ≤ _), (by decide : 0 + 0 ≤ _)⟩)
          dsimp only [Pt.U, Pt.locs, Pt.cells, Pt.slots] at X18 l18 y18 z18 st18 hQ18
          subst l18 y18 z18
          obtain ⟨rfl, N18q, e18⟩ := hQ18
          have N18 := Fr.app N0 N18q
          obtain ⟨fs, hr, hrun, hended, hW, hsame⟩ := X18.leave (v := some (.int (1 : Int32))) (fun h => by rw [Bd.returns] at h; cases h)
          refine ⟨_, _, pre15 _ ?_, hrun, hended, _, _, rfl, ?_, ⟨_, rfl⟩, hW, hsame.mono (by decide) (by decide)⟩
          · show Steps p.tables e below (T3.setTop (mkF m 93 #[.val (.long q0), .second, .val (.int p1), .val (.int (0 : Int32)), .val (.ref wS), .val (.long (64 : Int64)), .second, .val (.long (q0 &&& (9223372036854775807 : Int64))), .second, .val (.long ((q0 &&& (9223372036854775807 : Int64)) / (64 : Int64))), .second, .val (.long ((q0 &&& (9223372036854775807 : Int64)) - ((q0 &&& (9223372036854775807 : Int64)) / (64 : Int64)) * (64 : Int64))), .second, .unset, .unset] [(.int (lcmpW ((q0 &&& (9223372036854775807 : Int64)) - ((q0 &&& (9223372036854775807 : Int64)) / (64 : Int64)) * (64 : Int64)) (0 : Int64)))])) _
            refine XS.ifYes X3.here hx rfl (pc0 := 93) (pc' := 101) rfl (hb hby at_93) rfl ((if0 _ _).trans (feq (fun qq => hc93_14 ((lw_eq _ _).mp qq))).2) (by decide) (by decide) ?_
            show Steps p.tables e below (T3.setTop (mkF m 101 #[.val (.long q0), .second, .val (.int p1), .val (.int (0 : Int32)), .val (.ref wS), .val (.long (64 : Int64)), .second, .val (.long (q0 &&& (9223372036854775807 : Int64))), .second, .val (.long ((q0 &&& (9223372036854775807 : Int64)) / (64 : Int64))), .second, .val (.long ((q0 &&& (9223372036854775807 : Int64)) - ((q0 &&& (9223372036854775807 : Int64)) / (64 : Int64)) * (64 : Int64))), .second, .unset, .unset] [])) _
            refine XS.lload X3.here hx rfl (hb hby at_101) rfl ?_
            show Steps p.tables e below (T3.setTop (mkF m 103 #[.val (.long q0), .second, .val (.int p1), .val (.int (0 : Int32)), .val (.ref wS), .val (.long (64 : Int64)), .second, .val (.long (q0 &&& (9223372036854775807 : Int64))), .second, .val (.long ((q0 &&& (9223372036854775807 : Int64)) / (64 : Int64))), .second, .val (.long ((q0 &&& (9223372036854775807 : Int64)) - ((q0 &&& (9223372036854775807 : Int64)) / (64 : Int64)) * (64 : Int64))), .second, .unset, .unset] [(.long ((q0 &&& (9223372036854775807 : Int64)) / (64 : Int64)))])) _
            refine XS.lconst X3.here hx rfl (hb hby at_103) ?_
            show Steps p.tables e below (T3.setTop (mkF m 104 #[.val (.long q0), .second, .val (.int p1), .val (.int (0 : Int32)), .val (.ref wS), .val (.long (64 : Int64)), .second, .val (.long (q0 &&& (9223372036854775807 : Int64))), .second, .val (.long ((q0 &&& (9223372036854775807 : Int64)) / (64 : Int64))), .second, .val (.long ((q0 &&& (9223372036854775807 : Int64)) - ((q0 &&& (9223372036854775807 : Int64)) / (64 : Int64)) * (64 : Int64))), .second, .unset, .unset] [(.long (1 : Int64)), (.long ((q0 &&& (9223372036854775807 : Int64)) / (64 : Int64)))])) _
            refine XS.ladd X3.here hx rfl (hb hby at_104) rfl ?_
            show Steps p.tables e below (T3.setTop (mkF m 105 #[.val (.long q0), .second, .val (.int p1), .val (.int (0 : Int32)), .val (.ref wS), .val (.long (64 : Int64)), .second, .val (.long (q0 &&& (9223372036854775807 : Int64))), .second, .val (.long ((q0 &&& (9223372036854775807 : Int64)) / (64 : Int64))), .second, .val (.long ((q0 &&& (9223372036854775807 : Int64)) - ((q0 &&& (9223372036854775807 : Int64)) / (64 : Int64)) * (64 : Int64))), .second, .unset, .unset] [(.long (((q0 &&& (9223372036854775807 : Int64)) / (64 : Int64)) + (1 : Int64)))])) _
            refine XS.lstore X3.here hx rfl (hb hby at_105) rfl (l' := #[.val (.long q0), .second, .val (.int p1), .val (.int (0 : Int32)), .val (.ref wS), .val (.long (64 : Int64)), .second, .val (.long (q0 &&& (9223372036854775807 : Int64))), .second, .val (.long ((q0 &&& (9223372036854775807 : Int64)) / (64 : Int64))), .second, .val (.long ((q0 &&& (9223372036854775807 : Int64)) - ((q0 &&& (9223372036854775807 : Int64)) / (64 : Int64)) * (64 : Int64))), .second, .val (.long (((q0 &&& (9223372036854775807 : Int64)) / (64 : Int64)) + (1 : Int64))), .second]) rfl ?_
            show Steps p.tables e below (T3.setTop (mkF m 107 #[.val (.long q0), .second, .val (.int p1), .val (.int (0 : Int32)), .val (.ref wS), .val (.long (64 : Int64)), .second, .val (.long (q0 &&& (9223372036854775807 : Int64))), .second, .val (.long ((q0 &&& (9223372036854775807 : Int64)) / (64 : Int64))), .second, .val (.long ((q0 &&& (9223372036854775807 : Int64)) - ((q0 &&& (9223372036854775807 : Int64)) / (64 : Int64)) * (64 : Int64))), .second, .val (.long (((q0 &&& (9223372036854775807 : Int64)) / (64 : Int64)) + (1 : Int64))), .second] [])) _
            refine XS.aload X3.here hx rfl (hb hby at_107) rfl rfl ?_
            show Steps p.tables e below (T3.setTop (mkF m 109 #[.val (.long q0), .second, .val (.int p1), .val (.int (0 : Int32)), .val (.ref wS), .val (.long (64 : Int64)), .second, .val (.long (q0 &&& (9223372036854775807 : Int64))), .second, .val (.long ((q0 &&& (9223372036854775807 : Int64)) / (64 : Int64))), .second, .val (.long ((q0 &&& (9223372036854775807 : Int64)) - ((q0 &&& (9223372036854775807 : Int64)) / (64 : Int64)) * (64 : Int64))), .second, .val (.long (((q0 &&& (9223372036854775807 : Int64)) / (64 : Int64)) + (1 : Int64))), .second] [(.ref wS)])) _
            refine XS.lload X3.here hx rfl (hb hby at_109) rfl ?_
            show Steps p.tables e below (T3.setTop (mkF m 111 #[.val (.long q0), .second, .val (.int p1), .val (.int (0 : Int32)), .val (.ref wS), .val (.long (64 : Int64)), .second, .val (.long (q0 &&& (9223372036854775807 : Int64))), .second, .val (.long ((q0 &&& (9223372036854775807 : Int64)) / (64 : Int64))), .second, .val (.long ((q0 &&& (9223372036854775807 : Int64)) - ((q0 &&& (9223372036854775807 : Int64)) / (64 : Int64)) * (64 : Int64))), .second, .val (.long (((q0 &&& (9223372036854775807 : Int64)) / (64 : Int64)) + (1 : Int64))), .second] [(.long (q0 &&& (9223372036854775807 : Int64))), (.ref wS)])) _
            refine st18.trans ?_
            show Steps p.tables e below (T18.setTop (mkF m 114 #[.val (.long q0), .second, .val (.int p1), .val (.int (0 : Int32)), .val (.ref wS), .val (.long (64 : Int64)), .second, .val (.long (q0 &&& (9223372036854775807 : Int64))), .second, .val (.long ((q0 &&& (9223372036854775807 : Int64)) / (64 : Int64))), .second, .val (.long ((q0 &&& (9223372036854775807 : Int64)) - ((q0 &&& (9223372036854775807 : Int64)) / (64 : Int64)) * (64 : Int64))), .second, .val (.long (((q0 &&& (9223372036854775807 : Int64)) / (64 : Int64)) + (1 : Int64))), .second] [(.long ((((q0 &&& (9223372036854775807 : Int64)) - (1 : Int64)) / ((64 : Int32).toInt64)) + (1 : Int64)))])) _
            refine XS.lload X18.here hx rfl (hb hby at_114) rfl ?_
            show Steps p.tables e below (T18.setTop (mkF m 116 #[.val (.long q0), .second, .val (.int p1), .val (.int (0 : Int32)), .val (.ref wS), .val (.long (64 : Int64)), .second, .val (.long (q0 &&& (9223372036854775807 : Int64))), .second, .val (.long ((q0 &&& (9223372036854775807 : Int64)) / (64 : Int64))), .second, .val (.long ((q0 &&& (9223372036854775807 : Int64)) - ((q0 &&& (9223372036854775807 : Int64)) / (64 : Int64)) * (64 : Int64))), .second, .val (.long (((q0 &&& (9223372036854775807 : Int64)) / (64 : Int64)) + (1 : Int64))), .second] [(.long (((q0 &&& (9223372036854775807 : Int64)) / (64 : Int64)) + (1 : Int64))), (.long ((((q0 &&& (9223372036854775807 : Int64)) - (1 : Int64)) / ((64 : Int32).toInt64)) + (1 : Int64)))])) _
            refine XS.lcmp X18.here hx rfl (hb hby at_116) rfl ?_
            show Steps p.tables e below (T18.setTop (mkF m 117 #[.val (.long q0), .second, .val (.int p1), .val (.int (0 : Int32)), .val (.ref wS), .val (.long (64 : Int64)), .second, .val (.long (q0 &&& (9223372036854775807 : Int64))), .second, .val (.long ((q0 &&& (9223372036854775807 : Int64)) / (64 : Int64))), .second, .val (.long ((q0 &&& (9223372036854775807 : Int64)) - ((q0 &&& (9223372036854775807 : Int64)) / (64 : Int64)) * (64 : Int64))), .second, .val (.long (((q0 &&& (9223372036854775807 : Int64)) / (64 : Int64)) + (1 : Int64))), .second] [(.int (lcmpW ((((q0 &&& (9223372036854775807 : Int64)) - (1 : Int64)) / ((64 : Int32).toInt64)) + (1 : Int64)) (((q0 &&& (9223372036854775807 : Int64)) / (64 : Int64)) + (1 : Int64))))])) _
            refine XS.ifNo X18.here hx rfl (hb hby at_117) rfl ((if0 _ _).trans (teq ((lw_eq _ _).mpr (own_w1_64 (own_cp2 hc69_6) hc93_14))).2) ?_
            show Steps p.tables e below (T18.setTop (mkF m 120 #[.val (.long q0), .second, .val (.int p1), .val (.int (0 : Int32)), .val (.ref wS), .val (.long (64 : Int64)), .second, .val (.long (q0 &&& (9223372036854775807 : Int64))), .second, .val (.long ((q0 &&& (9223372036854775807 : Int64)) / (64 : Int64))), .second, .val (.long ((q0 &&& (9223372036854775807 : Int64)) - ((q0 &&& (9223372036854775807 : Int64)) / (64 : Int64)) * (64 : Int64))), .second, .val (.long (((q0 &&& (9223372036854775807 : Int64)) / (64 : Int64)) + (1 : Int64))), .second] [])) _
            refine XS.iconst X18.here hx rfl (hb hby at_120) ?_
            show Steps p.tables e below (T18.setTop (mkF m 121 #[.val (.long q0), .second, .val (.int p1), .val (.int (0 : Int32)), .val (.ref wS), .val (.long (64 : Int64)), .second, .val (.long (q0 &&& (9223372036854775807 : Int64))), .second, .val (.long ((q0 &&& (9223372036854775807 : Int64)) / (64 : Int64))), .second, .val (.long ((q0 &&& (9223372036854775807 : Int64)) - ((q0 &&& (9223372036854775807 : Int64)) / (64 : Int64)) * (64 : Int64))), .second, .val (.long (((q0 &&& (9223372036854775807 : Int64)) / (64 : Int64)) + (1 : Int64))), .second] [(.int (1 : Int32))])) _
            refine XS.goto X18.here hx rfl (pc0 := 121) (pc' := 125) rfl (hb hby at_121) (by decide) (by decide) ?_
            show Steps p.tables e below (T18.setTop (mkF m 125 #[.val (.long q0), .second, .val (.int p1), .val (.int (0 : Int32)), .val (.ref wS), .val (.long (64 : Int64)), .second, .val (.long (q0 &&& (9223372036854775807 : Int64))), .second, .val (.long ((q0 &&& (9223372036854775807 : Int64)) / (64 : Int64))), .second, .val (.long ((q0 &&& (9223372036854775807 : Int64)) - ((q0 &&& (9223372036854775807 : Int64)) / (64 : Int64)) * (64 : Int64))), .second, .val (.long (((q0 &&& (9223372036854775807 : Int64)) / (64 : Int64)) + (1 : Int64))), .second] [(.int (1 : Int32))])) _
            exact retN X18 hx (t := .boolean) Bd.returns (by simp) (hb hby at_125) hr
          · show own_Q0 n0 _ T18.heap _
            rw [e18]
            exact ⟨rfl, N18⟩
    · have pre21 : ∀ t, Steps p.tables e below (T3.setTop (mkF m 69 #[.val (.long q0), .second, .val (.int p1), .val (.int (0 : Int32)), .val (.ref wS), .val (.long (64 : Int64)), .second, .val (.long ((q0 &&& (255 : Int64)) + (1 : Int64))), .second, .unset, .unset, .unset, .unset, .unset, .unset] [(.int (lcmpW ((q0 &&& (255 : Int64)) + (1 : Int64)) (0 : Int64)))])) t → Steps p.tables e below (s₁.setTop (entryFrame m #[(.long q0), (.int p1)] maxLocals)) t := fun t kt => pre5 t (by
          show Steps p.tables e below (T3.setTop (mkF m 45 #[.val (.long q0), .second, .val (.int p1), .val (.int (0 : Int32)), .val (.ref wS), .val (.long (64 : Int64)), .second, .unset, .unset, .unset, .unset, .unset, .unset, .unset, .unset] [(.int (p1 &&& (2 : Int32)))])) _
          refine XS.ifNo X3.here hx rfl (hb hby at_45) rfl ((if0 _ _).trans (feq hc45_4).1) ?_
          show Steps p.tables e below (T3.setTop (mkF m 48 #[.val (.long q0), .second, .val (.int p1), .val (.int (0 : Int32)), .val (.ref wS), .val (.long (64 : Int64)), .second, .unset, .unset, .unset, .unset, .unset, .unset, .unset, .unset] [])) _
          refine XS.lloadN X3.here hx rfl (hb hby at_48) rfl ?_
          show Steps p.tables e below (T3.setTop (mkF m 49 #[.val (.long q0), .second, .val (.int p1), .val (.int (0 : Int32)), .val (.ref wS), .val (.long (64 : Int64)), .second, .unset, .unset, .unset, .unset, .unset, .unset, .unset, .unset] [(.long q0)])) _
          refine X3.ldc2Long hx hown (mvT hZ (hw _ (List.mem_of_getElem? (i := 4) rfl))) (g := (mkF m 49 #[.val (.long q0), .second, .val (.int p1), .val (.int (0 : Int32)), .val (.ref wS), .val (.long (64 : Int64)), .second, .unset, .unset, .unset, .unset, .unset, .unset, .unset, .unset] [(.long q0)])) rfl (hb hby at_49) _ ?_
          show Steps p.tables e below (T3.setTop (mkF m 52 #[.val (.long q0), .second, .val (.int p1), .val (.int (0 : Int32)), .val (.ref wS), .val (.long (64 : Int64)), .second, .unset, .unset, .unset, .unset, .unset, .unset, .unset, .unset] [(.long (255 : Int64)), (.long q0)])) _
          refine XS.land X3.here hx rfl (hb hby at_52) rfl ?_
          show Steps p.tables e below (T3.setTop (mkF m 53 #[.val (.long q0), .second, .val (.int p1), .val (.int (0 : Int32)), .val (.ref wS), .val (.long (64 : Int64)), .second, .unset, .unset, .unset, .unset, .unset, .unset, .unset, .unset] [(.long (q0 &&& (255 : Int64)))])) _
          refine XS.lconst X3.here hx rfl (hb hby at_53) ?_
          show Steps p.tables e below (T3.setTop (mkF m 54 #[.val (.long q0), .second, .val (.int p1), .val (.int (0 : Int32)), .val (.ref wS), .val (.long (64 : Int64)), .second, .unset, .unset, .unset, .unset, .unset, .unset, .unset, .unset] [(.long (1 : Int64)), (.long (q0 &&& (255 : Int64)))])) _
          refine XS.ladd X3.here hx rfl (hb hby at_54) rfl ?_
          show Steps p.tables e below (T3.setTop (mkF m 55 #[.val (.long q0), .second, .val (.int p1), .val (.int (0 : Int32)), .val (.ref wS), .val (.long (64 : Int64)), .second, .unset, .unset, .unset, .unset, .unset, .unset, .unset, .unset] [(.long ((q0 &&& (255 : Int64)) + (1 : Int64)))])) _
          refine XS.goto X3.here hx rfl (pc0 := 55) (pc' := 63) rfl (hb hby at_55) (by decide) (by decide) ?_
          show Steps p.tables e below (T3.setTop (mkF m 63 #[.val (.long q0), .second, .val (.int p1), .val (.int (0 : Int32)), .val (.ref wS), .val (.long (64 : Int64)), .second, .unset, .unset, .unset, .unset, .unset, .unset, .unset, .unset] [(.long ((q0 &&& (255 : Int64)) + (1 : Int64)))])) _
          refine XS.lstore X3.here hx rfl (hb hby at_63) rfl (l' := #[.val (.long q0), .second, .val (.int p1), .val (.int (0 : Int32)), .val (.ref wS), .val (.long (64 : Int64)), .second, .val (.long ((q0 &&& (255 : Int64)) + (1 : Int64))), .second, .unset, .unset, .unset, .unset, .unset, .unset]) rfl ?_
          show Steps p.tables e below (T3.setTop (mkF m 65 #[.val (.long q0), .second, .val (.int p1), .val (.int (0 : Int32)), .val (.ref wS), .val (.long (64 : Int64)), .second, .val (.long ((q0 &&& (255 : Int64)) + (1 : Int64))), .second, .unset, .unset, .unset, .unset, .unset, .unset] [])) _
          refine XS.lload X3.here hx rfl (hb hby at_65) rfl ?_
          show Steps p.tables e below (T3.setTop (mkF m 67 #[.val (.long q0), .second, .val (.int p1), .val (.int (0 : Int32)), .val (.ref wS), .val (.long (64 : Int64)), .second, .val (.long ((q0 &&& (255 : Int64)) + (1 : Int64))), .second, .unset, .unset, .unset, .unset, .unset, .unset] [(.long ((q0 &&& (255 : Int64)) + (1 : Int64)))])) _
          refine XS.lconst X3.here hx rfl (hb hby at_67) ?_
          show Steps p.tables e below (T3.setTop (mkF m 68 #[.val (.long q0), .second, .val (.int p1), .val (.int (0 : Int32)), .val (.ref wS), .val (.long (64 : Int64)), .second, .val (.long ((q0 &&& (255 : Int64)) + (1 : Int64))), .second, .unset, .unset, .unset, .unset, .unset, .unset] [(.long (0 : Int64)), (.long ((q0 &&& (255 : Int64)) + (1 : Int64)))])) _
          refine XS.lcmp X3.here hx rfl (hb hby at_68) rfl ?_
          exact kt)
      by_cases hc69_20 : ((q0 &&& (255 : Int64)) + (1 : Int64)) = (0 : Int64)
      · have pre23 : ∀ t, Steps p.tables e below (T3.setTop (mkF m 93 #[.val (.long q0), .second, .val (.int p1), .val (.int (0 : Int32)), .val (.ref wS), .val (.long (64 : Int64)), .second, .val (.long (1 : Int64)), .second, .val (.long ((1 : Int64) / (64 : Int64))), .second, .val (.long ((1 : Int64) - ((1 : Int64) / (64 : Int64)) * (64 : Int64))), .second, .unset, .unset] [(.int (lcmpW ((1 : Int64) - ((1 : Int64) / (64 : Int64)) * (64 : Int64)) (0 : Int64)))])) t → Steps p.tables e below (s₁.setTop (entryFrame m #[(.long q0), (.int p1)] maxLocals)) t := fun t kt => pre21 t (by
            show Steps p.tables e below (T3.setTop (mkF m 69 #[.val (.long q0), .second, .val (.int p1), .val (.int (0 : Int32)), .val (.ref wS), .val (.long (64 : Int64)), .second, .val (.long ((q0 &&& (255 : Int64)) + (1 : Int64))), .second, .unset, .unset, .unset, .unset, .unset, .unset] [(.int (lcmpW ((q0 &&& (255 : Int64)) + (1 : Int64)) (0 : Int64)))])) _
            refine XS.ifNo X3.here hx rfl (hb hby at_69) rfl ((if0 _ _).trans (teq ((lw_eq _ _).mpr hc69_20)).2) ?_
            show Steps p.tables e below (T3.setTop (mkF m 72 #[.val (.long q0), .second, .val (.int p1), .val (.int (0 : Int32)), .val (.ref wS), .val (.long (64 : Int64)), .second, .val (.long ((q0 &&& (255 : Int64)) + (1 : Int64))), .second, .unset, .unset, .unset, .unset, .unset, .unset] [])) _
            refine XS.lconst X3.here hx rfl (hb hby at_72) ?_
            show Steps p.tables e below (T3.setTop (mkF m 73 #[.val (.long q0), .second, .val (.int p1), .val (.int (0 : Int32)), .val (.ref wS), .val (.long (64 : Int64)), .second, .val (.long ((q0 &&& (255 : Int64)) + (1 : Int64))), .second, .unset, .unset, .unset, .unset, .unset, .unset] [(.long (1 : Int64))])) _
            refine XS.lstore X3.here hx rfl (hb hby at_73) rfl (l' := #[.val (.long q0), .second, .val (.int p1), .val (.int (0 : Int32)), .val (.ref wS), .val (.long (64 : Int64)), .second, .val (.long (1 : Int64)), .second, .unset, .unset, .unset, .unset, .unset, .unset]) rfl ?_
            show Steps p.tables e below (T3.setTop (mkF m 75 #[.val (.long q0), .second, .val (.int p1), .val (.int (0 : Int32)), .val (.ref wS), .val (.long (64 : Int64)), .second, .val (.long (1 : Int64)), .second, .unset, .unset, .unset, .unset, .unset, .unset] [])) _
            refine XS.lload X3.here hx rfl (hb hby at_75) rfl ?_
            show Steps p.tables e below (T3.setTop (mkF m 77 #[.val (.long q0), .second, .val (.int p1), .val (.int (0 : Int32)), .val (.ref wS), .val (.long (64 : Int64)), .second, .val (.long (1 : Int64)), .second, .unset, .unset, .unset, .unset, .unset, .unset] [(.long (1 : Int64))])) _
            refine XS.lload X3.here hx rfl (hb hby at_77) rfl ?_
            show Steps p.tables e below (T3.setTop (mkF m 79 #[.val (.long q0), .second, .val (.int p1), .val (.int (0 : Int32)), .val (.ref wS), .val (.long (64 : Int64)), .second, .val (.long (1 : Int64)), .second, .unset, .unset, .unset, .unset, .unset, .unset] [(.long (64 : Int64)), (.long (1 : Int64))])) _
            refine XS.ldiv X3.here hx rfl (hb hby at_79) rfl (by decide : ¬ ((64 : Int64) = (0 : Int64))) ?_
            show Steps p.tables e below (T3.setTop (mkF m 80 #[.val (.long q0), .second, .val (.int p1), .val (.int (0 : Int32)), .val (.ref wS), .val (.long (64 : Int64)), .second, .val (.long (1 : Int64)), .second, .unset, .unset, .unset, .unset, .unset, .unset] [(.long ((1 : Int64) / (64 : Int64)))])) _
            refine XS.lstore X3.here hx rfl (hb hby at_80) rfl (l' := #[.val (.long q0), .second, .val (.int p1), .val (.int (0 : Int32)), .val (.ref wS), .val (.long (64 : Int64)), .second, .val (.long (1 : Int64)), .second, .val (.long ((1 : Int64) / (64 : Int64))), .second, .unset, .unset, .unset, .unset]) rfl ?_
            show Steps p.tables e below (T3.setTop (mkF m 82 #[.val (.long q0), .second, .val (.int p1), .val (.int (0 : Int32)), .val (.ref wS), .val (.long (64 : Int64)), .second, .val (.long (1 : Int64)), .second, .val (.long ((1 : Int64) / (64 : Int64))), .second, .unset, .unset, .unset, .unset] [])) _
            refine XS.lload X3.here hx rfl (hb hby at_82) rfl ?_
            show Steps p.tables e below (T3.setTop (mkF m 84 #[.val (.long q0), .second, .val (.int p1), .val (.int (0 : Int32)), .val (.ref wS), .val (.long (64 : Int64)), .second, .val (.long (1 : Int64)), .second, .val (.long ((1 : Int64) / (64 : Int64))), .second, .unset, .unset, .unset, .unset] [(.long (1 : Int64))])) _
            refine XS.lload X3.here hx rfl (hb hby at_84) rfl ?_
            show Steps p.tables e below (T3.setTop (mkF m 86 #[.val (.long q0), .second, .val (.int p1), .val (.int (0 : Int32)), .val (.ref wS), .val (.long (64 : Int64)), .second, .val (.long (1 : Int64)), .second, .val (.long ((1 : Int64) / (64 : Int64))), .second, .unset, .unset, .unset, .unset] [(.long (64 : Int64)), (.long (1 : Int64))])) _
            refine XS.lrem X3.here hx rfl (hb hby at_86) rfl (by decide : ¬ ((64 : Int64) = (0 : Int64))) ?_
            show Steps p.tables e below (T3.setTop (mkF m 87 #[.val (.long q0), .second, .val (.int p1), .val (.int (0 : Int32)), .val (.ref wS), .val (.long (64 : Int64)), .second, .val (.long (1 : Int64)), .second, .val (.long ((1 : Int64) / (64 : Int64))), .second, .unset, .unset, .unset, .unset] [(.long ((1 : Int64) - ((1 : Int64) / (64 : Int64)) * (64 : Int64)))])) _
            refine XS.lstore X3.here hx rfl (hb hby at_87) rfl (l' := #[.val (.long q0), .second, .val (.int p1), .val (.int (0 : Int32)), .val (.ref wS), .val (.long (64 : Int64)), .second, .val (.long (1 : Int64)), .second, .val (.long ((1 : Int64) / (64 : Int64))), .second, .val (.long ((1 : Int64) - ((1 : Int64) / (64 : Int64)) * (64 : Int64))), .second, .unset, .unset]) rfl ?_
            show Steps p.tables e below (T3.setTop (mkF m 89 #[.val (.long q0), .second, .val (.int p1), .val (.int (0 : Int32)), .val (.ref wS), .val (.long (64 : Int64)), .second, .val (.long (1 : Int64)), .second, .val (.long ((1 : Int64) / (64 : Int64))), .second, .val (.long ((1 : Int64) - ((1 : Int64) / (64 : Int64)) * (64 : Int64))), .second, .unset, .unset] [])) _
            refine XS.lload X3.here hx rfl (hb hby at_89) rfl ?_
            show Steps p.tables e below (T3.setTop (mkF m 91 #[.val (.long q0), .second, .val (.int p1), .val (.int (0 : Int32)), .val (.ref wS), .val (.long (64 : Int64)), .second, .val (.long (1 : Int64)), .second, .val (.long ((1 : Int64) / (64 : Int64))), .second, .val (.long ((1 : Int64) - ((1 : Int64) / (64 : Int64)) * (64 : Int64))), .second, .unset, .unset] [(.long ((1 : Int64) - ((1 : Int64) / (64 : Int64)) * (64 : Int64)))])) _
            refine XS.lconst X3.here hx rfl (hb hby at_91) ?_
            show Steps p.tables e below (T3.setTop (mkF m 92 #[.val (.long q0), .second, .val (.int p1), .val (.int (0 : Int32)), .val (.ref wS), .val (.long (64 : Int64)), .second, .val (.long (1 : Int64)), .second, .val (.long ((1 : Int64) / (64 : Int64))), .second, .val (.long ((1 : Int64) - ((1 : Int64) / (64 : Int64)) * (64 : Int64))), .second, .unset, .unset] [(.long (0 : Int64)), (.long ((1 : Int64) - ((1 : Int64) / (64 : Int64)) * (64 : Int64)))])) _
            refine XS.lcmp X3.here hx rfl (hb hby at_92) rfl ?_
            exact kt)
        by_cases hc93_22 : ((1 : Int64) - ((1 : Int64) / (64 : Int64)) * (64 : Int64)) = (0 : Int64)
        · obtain ⟨cq25, kq25, q25a, q25b, q25c⟩ := isOf hZ e3 P_E_wS
          obtain ⟨_, _, ⟨T24, L24, k24, n24⟩, -, X24, ⟨Lc24, hQ24, l24, y24, z24⟩, st24⟩ := X3.virtualBack hx (y := (⟨"com/example/keys_to_bits/keystobits/FilterKind", "words", "(J)J"⟩ : MethodName)) (z := (⟨"com/example/keys_to_bits/keystobits/FilterKind", "words", "(J)J"⟩ : MethodName)) hown (mvT hZ (hw _ (List.mem_of_getElem? (i := 5) rfl))) (mvT hZ (hw _ (List.mem_of_getElem? (i := 6) rfl))) (notFace_of_selects (args := #[]) (mvT hZ (hw _ (List.mem_of_getElem? (i := 8) rfl)))) (mvT hZ (hw _ (List.mem_of_getElem? (i := 8) rfl))) (mvT hZ (hw _ (List.mem_of_getElem? (i := 7) rfl))) (by decide) (backOf (W := 0) (rmW1 l Z a0 hw [] wS (1 : Int64) h0 n0 Z0 P_E_wS P_F_wS_FilterKind_bitsPerCell) hZ (hw _ (List.mem_of_getElem? (i := 9) rfl)) (hw _ (List.mem_of_getElem? (i := 1) rfl)) (by decide) (by decide)) q25a q25c (g := (mkF m 111 #[.val (.long q0), .second, .val (.int p1), .val (.int (0 : Int32)), .val (.ref wS), .val (.long (64 : Int64)), .second, .val (.long (1 : Int64)), .second, .val (.long ((1 : Int64) / (64 : Int64))), .second, .val (.long ((1 : Int64) - ((1 : Int64) / (64 : Int64)) * (64 : Int64))), .second, .val (.long ((1 : Int64) / (64 : Int64))), .second] [(.long (1 : Int64)), (.ref wS)])) rfl (by rw [hml]; rfl) (Steps.refl _) (argsL := [(.long (1 : Int64))]) (rest := []) (lenOf pd__J_J rfl) rfl (by show 2 * 0 + _ ≤ _; exact Nat.le_of_eq rfl) (hb hby at_111) (fun _ _ => ⟨rfl, e3, (by decide : 0 + 0 ≤ _), (by decide : 0 + 0 ≤ _)⟩)
          dsimp only [Pt.U, Pt.locs, Pt.cells, Pt.slots] at X24 l24 y24 z24 st24 hQ24
          subst l24 y24 z24
          obtain ⟨rfl, N24q, e24⟩ := hQ24
          have N24 := Fr.app N0 N24q
          obtain ⟨fs, hr, hrun, hended, hW, hsame⟩ := X24.leave (v := some (.int (1 : Int32))) (fun h => by rw [Bd.returns] at h; cases h)
          refine ⟨_, _, pre23 _ ?_, hrun, hended, _, _, rfl, ?_, ⟨_, rfl⟩, hW, hsame.mono (by decide) (by decide)⟩
          · show Steps p.tables e below (T3.setTop (mkF m 93 #[.val (.long q0), .second, .val (.int p1), .val (.int (0 : Int32)), .val (.ref wS), .val (.long (64 : Int64)), .second, .val (.long (1 : Int64)), .second, .val (.long ((1 : Int64) / (64 : Int64))), .second, .val (.long ((1 : Int64) - ((1 : Int64) / (64 : Int64)) * (64 : Int64))), .second, .unset, .unset] [(.int (lcmpW ((1 : Int64) - ((1 : Int64) / (64 : Int64)) * (64 : Int64)) (0 : Int64)))])) _
            refine XS.ifNo X3.here hx rfl (hb hby at_93) rfl ((if0 _ _).trans (teq ((lw_eq _ _).mpr hc93_22)).2) ?_
            show Steps p.tables e below (T3.setTop (mkF m 96 #[.val (.long q0), .second, .val (.int p1), .val (.int (0 : Int32)), .val (.ref wS), .val (.long (64 : Int64)), .second, .val (.long (1 : Int64)), .second, .val (.long ((1 : Int64) / (64 : Int64))), .second, .val (.long ((1 : Int64) - ((1 : Int64) / (64 : Int64)) * (64 : Int64))), .second, .unset, .unset] [])) _
            refine XS.lload X3.here hx rfl (hb hby at_96) rfl ?_
            show Steps p.tables e below (T3.setTop (mkF m 98 #[.val (.long q0), .second, .val (.int p1), .val (.int (0 : Int32)), .val (.ref wS), .val (.long (64 : Int64)), .second, .val (.long (1 : Int64)), .second, .val (.long ((1 : Int64) / (64 : Int64))), .second, .val (.long ((1 : Int64) - ((1 : Int64) / (64 : Int64)) * (64 : Int64))), .second, .unset, .unset] [(.long ((1 : Int64) / (64 : Int64)))])) _
            refine XS.goto X3.here hx rfl (pc0 := 98) (pc' := 105) rfl (hb hby at_98) (by decide) (by decide) ?_
            show Steps p.tables e below (T3.setTop (mkF m 105 #[.val (.long q0), .second, .val (.int p1), .val (.int (0 : Int32)), .val (.ref wS), .val (.long (64 : Int64)), .second, .val (.long (1 : Int64)), .second, .val (.long ((1 : Int64) / (64 : Int64))), .second, .val (.long ((1 : Int64) - ((1 : Int64) / (64 : Int64)) * (64 : Int64))), .second, .unset, .unset] [(.long ((1 : Int64) / (64 : Int64)))])) _
            refine XS.lstore X3.here hx rfl (hb hby at_105) rfl (l' := #[.val (.long q0), .second, .val (.int p1), .val (.int (0 : Int32)), .val (.ref wS), .val (.long (64 : Int64)), .second, .val (.long (1 : Int64)), .second, .val (.long ((1 : Int64) / (64 : Int64))), .second, .val (.long ((1 : Int64) - ((1 : Int64) / (64 : Int64)) * (64 : Int64))), .second, .val (.long ((1 : Int64) / (64 : Int64))), .second]) rfl ?_
            show Steps p.tables e below (T3.setTop (mkF m 107 #[.val (.long q0), .second, .val (.int p1), .val (.int (0 : Int32)), .val (.ref wS), .val (.long (64 : Int64)), .second, .val (.long (1 : Int64)), .second, .val (.long ((1 : Int64) / (64 : Int64))), .second, .val (.long ((1 : Int64) - ((1 : Int64) / (64 : Int64)) * (64 : Int64))), .second, .val (.long ((1 : Int64) / (64 : Int64))), .second] [])) _
            refine XS.aload X3.here hx rfl (hb hby at_107) rfl rfl ?_
            show Steps p.tables e below (T3.setTop (mkF m 109 #[.val (.long q0), .second, .val (.int p1), .val (.int (0 : Int32)), .val (.ref wS), .val (.long (64 : Int64)), .second, .val (.long (1 : Int64)), .second, .val (.long ((1 : Int64) / (64 : Int64))), .second, .val (.long ((1 : Int64) - ((1 : Int64) / (64 : Int64)) * (64 : Int64))), .second, .val (.long ((1 : Int64) / (64 : Int64))), .second] [(.ref wS)])) _
            refine XS.lload X3.here hx rfl (hb hby at_109) rfl ?_
            show Steps p.tables e below (T3.setTop (mkF m 111 #[.val (.long q0), .second, .val (.int p1), .val (.int (0 : Int32)), .val (.ref wS), .val (.long (64 : Int64)), .second, .val (.long (1 : Int64)), .second, .val (.long ((1 : Int64) / (64 : Int64))), .second, .val (.long ((1 : Int64) - ((1 : Int64) / (64 : Int64)) * (64 : Int64))), .second, .val (.long ((1 : Int64) / (64 : Int64))), .second] [(.long (1 : Int64)), (.ref wS)])) _
            refine st24.trans ?_
            show Steps p.tables e below (T24.setTop (mkF m 114 #[.val (.long q0), .second, .val (.int p1), .val (.int (0 : Int32)), .val (.ref wS), .val (.long (64 : Int64)), .second, .val (.long (1 : Int64)), .second, .val (.long ((1 : Int64) / (64 : Int64))), .second, .val (.long ((1 : Int64) - ((1 : Int64) / (64 : Int64)) * (64 : Int64))), .second, .val (.long ((1 : Int64) / (64 : Int64))), .second] [(.long ((((1 : Int64) - (1 : Int64)) / ((64 : Int32).toInt64)) + (1 : Int64)))])) _
            refine XS.lload X24.here hx rfl (hb hby at_114) rfl ?_
            show Steps p.tables e below (T24.setTop (mkF m 116 #[.val (.long q0), .second, .val (.int p1), .val (.int (0 : Int32)), .val (.ref wS), .val (.long (64 : Int64)), .second, .val (.long (1 : Int64)), .second, .val (.long ((1 : Int64) / (64 : Int64))), .second, .val (.long ((1 : Int64) - ((1 : Int64) / (64 : Int64)) * (64 : Int64))), .second, .val (.long ((1 : Int64) / (64 : Int64))), .second] [(.long ((1 : Int64) / (64 : Int64))), (.long ((((1 : Int64) - (1 : Int64)) / ((64 : Int32).toInt64)) + (1 : Int64)))])) _
            refine XS.lcmp X24.here hx rfl (hb hby at_116) rfl ?_
            show Steps p.tables e below (T24.setTop (mkF m 117 #[.val (.long q0), .second, .val (.int p1), .val (.int (0 : Int32)), .val (.ref wS), .val (.long (64 : Int64)), .second, .val (.long (1 : Int64)), .second, .val (.long ((1 : Int64) / (64 : Int64))), .second, .val (.long ((1 : Int64) - ((1 : Int64) / (64 : Int64)) * (64 : Int64))), .second, .val (.long ((1 : Int64) / (64 : Int64))), .second] [(.int (lcmpW ((((1 : Int64) - (1 : Int64)) / ((64 : Int32).toInt64)) + (1 : Int64)) ((1 : Int64) / (64 : Int64))))])) _
            refine XS.ifNo X24.here hx rfl (hb hby at_117) rfl ((if0 _ _).trans (teq ((lw_eq _ _).mpr (own_w0_64 (by decide : 0 < (1 : Int64).toInt) hc93_22))).2) ?_
            show Steps p.tables e below (T24.setTop (mkF m 120 #[.val (.long q0), .second, .val (.int p1), .val (.int (0 : Int32)), .val (.ref wS), .val (.long (64 : Int64)), .second, .val (.long (1 : Int64)), .second, .val (.long ((1 : Int64) / (64 : Int64))), .second, .val (.long ((1 : Int64) - ((1 : Int64) / (64 : Int64)) * (64 : Int64))), .second, .val (.long ((1 : Int64) / (64 : Int64))), .second] [])) _
            refine XS.iconst X24.here hx rfl (hb hby at_120) ?_
            show Steps p.tables e below (T24.setTop (mkF m 121 #[.val (.long q0), .second, .val (.int p1), .val (.int (0 : Int32)), .val (.ref wS), .val (.long (64 : Int64)), .second, .val (.long (1 : Int64)), .second, .val (.long ((1 : Int64) / (64 : Int64))), .second, .val (.long ((1 : Int64) - ((1 : Int64) / (64 : Int64)) * (64 : Int64))), .second, .val (.long ((1 : Int64) / (64 : Int64))), .second] [(.int (1 : Int32))])) _
            refine XS.goto X24.here hx rfl (pc0 := 121) (pc' := 125) rfl (hb hby at_121) (by decide) (by decide) ?_
            show Steps p.tables e below (T24.setTop (mkF m 125 #[.val (.long q0), .second, .val (.int p1), .val (.int (0 : Int32)), .val (.ref wS), .val (.long (64 : Int64)), .second, .val (.long (1 : Int64)), .second, .val (.long ((1 : Int64) / (64 : Int64))), .second, .val (.long ((1 : Int64) - ((1 : Int64) / (64 : Int64)) * (64 : Int64))), .second, .val (.long ((1 : Int64) / (64 : Int64))), .second] [(.int (1 : Int32))])) _
            exact retN X24 hx (t := .boolean) Bd.returns (by simp) (hb hby at_125) hr
          · show own_Q0 n0 _ T24.heap _
            rw [e24]
            exact ⟨rfl, N24⟩
        · obtain ⟨cq27, kq27, q27a, q27b, q27c⟩ := isOf hZ e3 P_E_wS
          obtain ⟨_, _, ⟨T26, L26, k26, n26⟩, -, X26, ⟨Lc26, hQ26, l26, y26, z26⟩, st26⟩ := X3.virtualBack hx (y := (⟨"com/example/keys_to_bits/keystobits/FilterKind", "words", "(J)J"⟩ : MethodName)) (z := (⟨"com/example/keys_to_bits/keystobits/FilterKind", "words", "(J)J"⟩ : MethodName)) hown (mvT hZ (hw _ (List.mem_of_getElem? (i := 5) rfl))) (mvT hZ (hw _ (List.mem_of_getElem? (i := 6) rfl))) (notFace_of_selects (args := #[]) (mvT hZ (hw _ (List.mem_of_getElem? (i := 8) rfl)))) (mvT hZ (hw _ (List.mem_of_getElem? (i := 8) rfl))) (mvT hZ (hw _ (List.mem_of_getElem? (i := 7) rfl))) (by decide) (backOf (W := 0) (rmW1 l Z a0 hw [] wS (1 : Int64) h0 n0 Z0 P_E_wS P_F_wS_FilterKind_bitsPerCell) hZ (hw _ (List.mem_of_getElem? (i := 9) rfl)) (hw _ (List.mem_of_getElem? (i := 1) rfl)) (by decide) (by decide)) q27a q27c (g := (mkF m 111 #[.val (.long q0), .second, .val (.int p1), .val (.int (0 : Int32)), .val (.ref wS), .val (.long (64 : Int64)), .second, .val (.long (1 : Int64)), .second, .val (.long ((1 : Int64) / (64 : Int64))), .second, .val (.long ((1 : Int64) - ((1 : Int64) / (64 : Int64)) * (64 : Int64))), .second, .val (.long (((1 : Int64) / (64 : Int64)) + (1 : Int64))), .second] [(.long (1 : Int64)), (.ref wS)])) rfl (by rw [hml]; rfl) (Steps.refl _) (argsL := [(.long (1 : Int64))]) (rest := []) (lenOf pd__J_J rfl) rfl (by show 2 * 0 + _ ≤ _; exact Nat.le_of_eq rfl) (hb hby at_111) (fun _ _ => ⟨rfl, e3, (by decide : 0 + 0 ≤ _), (by decide : 0 + 0 ≤ _)⟩)
          dsimp only [Pt.U, Pt.locs, Pt.cells, Pt.slots] at X26 l26 y26 z26 st26 hQ26
          subst l26 y26 z26
          obtain ⟨rfl, N26q, e26⟩ := hQ26
          have N26 := Fr.app N0 N26q
          obtain ⟨fs, hr, hrun, hended, hW, hsame⟩ := X26.leave (v := some (.int (1 : Int32))) (fun h => by rw [Bd.returns] at h; cases h)
          refine ⟨_, _, pre23 _ ?_, hrun, hended, _, _, rfl, ?_, ⟨_, rfl⟩, hW, hsame.mono (by decide) (by decide)⟩
          · show Steps p.tables e below (T3.setTop (mkF m 93 #[.val (.long q0), .second, .val (.int p1), .val (.int (0 : Int32)), .val (.ref wS), .val (.long (64 : Int64)), .second, .val (.long (1 : Int64)), .second, .val (.long ((1 : Int64) / (64 : Int64))), .second, .val (.long ((1 : Int64) - ((1 : Int64) / (64 : Int64)) * (64 : Int64))), .second, .unset, .unset] [(.int (lcmpW ((1 : Int64) - ((1 : Int64) / (64 : Int64)) * (64 : Int64)) (0 : Int64)))])) _
            refine XS.ifYes X3.here hx rfl (pc0 := 93) (pc' := 101) rfl (hb hby at_93) rfl ((if0 _ _).trans (feq (fun qq => hc93_22 ((lw_eq _ _).mp qq))).2) (by decide) (by decide) ?_
            show Steps p.tables e below (T3.setTop (mkF m 101 #[.val (.long q0), .second, .val (.int p1), .val (.int (0 : Int32)), .val (.ref wS), .val (.long (64 : Int64)), .second, .val (.long (1 : Int64)), .second, .val (.long ((1 : Int64) / (64 : Int64))), .second, .val (.long ((1 : Int64) - ((1 : Int64) / (64 : Int64)) * (64 : Int64))), .second, .unset, .unset] [])) _
            refine XS.lload X3.here hx rfl (hb hby at_101) rfl ?_
            show Steps p.tables e below (T3.setTop (mkF m 103 #[.val (.long q0), .second, .val (.int p1), .val (.int (0 : Int32)), .val (.ref wS), .val (.long (64 : Int64)), .second, .val (.long (1 : Int64)), .second, .val (.long ((1 : Int64) / (64 : Int64))), .second, .val (.long ((1 : Int64) - ((1 : Int64) / (64 : Int64)) * (64 : Int64))), .second, .unset, .unset] [(.long ((1 : Int64) / (64 : Int64)))])) _
            refine XS.lconst X3.here hx rfl (hb hby at_103) ?_
            show Steps p.tables e below (T3.setTop (mkF m 104 #[.val (.long q0), .second, .val (.int p1), .val (.int (0 : Int32)), .val (.ref wS), .val (.long (64 : Int64)), .second, .val (.long (1 : Int64)), .second, .val (.long ((1 : Int64) / (64 : Int64))), .second, .val (.long ((1 : Int64) - ((1 : Int64) / (64 : Int64)) * (64 : Int64))), .second, .unset, .unset] [(.long (1 : Int64)), (.long ((1 : Int64) / (64 : Int64)))])) _
            refine XS.ladd X3.here hx rfl (hb hby at_104) rfl ?_
            show Steps p.tables e below (T3.setTop (mkF m 105 #[.val (.long q0), .second, .val (.int p1), .val (.int (0 : Int32)), .val (.ref wS), .val (.long (64 : Int64)), .second, .val (.long (1 : Int64)), .second, .val (.long ((1 : Int64) / (64 : Int64))), .second, .val (.long ((1 : Int64) - ((1 : Int64) / (64 : Int64)) * (64 : Int64))), .second, .unset, .unset] [(.long (((1 : Int64) / (64 : Int64)) + (1 : Int64)))])) _
            refine XS.lstore X3.here hx rfl (hb hby at_105) rfl (l' := #[.val (.long q0), .second, .val (.int p1), .val (.int (0 : Int32)), .val (.ref wS), .val (.long (64 : Int64)), .second, .val (.long (1 : Int64)), .second, .val (.long ((1 : Int64) / (64 : Int64))), .second, .val (.long ((1 : Int64) - ((1 : Int64) / (64 : Int64)) * (64 : Int64))), .second, .val (.long (((1 : Int64) / (64 : Int64)) + (1 : Int64))), .second]) rfl ?_
            show Steps p.tables e below (T3.setTop (mkF m 107 #[.val (.long q0), .second, .val (.int p1), .val (.int (0 : Int32)), .val (.ref wS), .val (.long (64 : Int64)), .second, .val (.long (1 : Int64)), .second, .val (.long ((1 : Int64) / (64 : Int64))), .second, .val (.long ((1 : Int64) - ((1 : Int64) / (64 : Int64)) * (64 : Int64))), .second, .val (.long (((1 : Int64) / (64 : Int64)) + (1 : Int64))), .second] [])) _
            refine XS.aload X3.here hx rfl (hb hby at_107) rfl rfl ?_
            show Steps p.tables e below (T3.setTop (mkF m 109 #[.val (.long q0), .second, .val (.int p1), .val (.int (0 : Int32)), .val (.ref wS), .val (.long (64 : Int64)), .second, .val (.long (1 : Int64)), .second, .val (.long ((1 : Int64) / (64 : Int64))), .second, .val (.long ((1 : Int64) - ((1 : Int64) / (64 : Int64)) * (64 : Int64))), .second, .val (.long (((1 : Int64) / (64 : Int64)) + (1 : Int64))), .second] [(.ref wS)])) _
            refine XS.lload X3.here hx rfl (hb hby at_109) rfl ?_
            show Steps p.tables e below (T3.setTop (mkF m 111 #[.val (.long q0), .second, .val (.int p1), .val (.int (0 : Int32)), .val (.ref wS), .val (.long (64 : Int64)), .second, .val (.long (1 : Int64)), .second, .val (.long ((1 : Int64) / (64 : Int64))), .second, .val (.long ((1 : Int64) - ((1 : Int64) / (64 : Int64)) * (64 : Int64))), .second, .val (.long (((1 : Int64) / (64 : Int64)) + (1 : Int64))), .second] [(.long (1 : Int64)), (.ref wS)])) _
            refine st26.trans ?_
            show Steps p.tables e below (T26.setTop (mkF m 114 #[.val (.long q0), .second, .val (.int p1), .val (.int (0 : Int32)), .val (.ref wS), .val (.long (64 : Int64)), .second, .val (.long (1 : Int64)), .second, .val (.long ((1 : Int64) / (64 : Int64))), .second, .val (.long ((1 : Int64) - ((1 : Int64) / (64 : Int64)) * (64 : Int64))), .second, .val (.long (((1 : Int64) / (64 : Int64)) + (1 : Int64))), .second] [(.long ((((1 : Int64) - (1 : Int64)) / ((64 : Int32).toInt64)) + (1 : Int64)))])) _
            refine XS.lload X26.here hx rfl (hb hby at_114) rfl ?_
            show Steps p.tables e below (T26.setTop (mkF m 116 #[.val (.long q0), .second, .val (.int p1), .val (.int (0 : Int32)), .val (.ref wS), .val (.long (64 : Int64)), .second, .val (.long (1 : Int64)), .second, .val (.long ((1 : Int64) / (64 : Int64))), .second, .val (.long ((1 : Int64) - ((1 : Int64) / (64 : Int64)) * (64 : Int64))), .second, .val (.long (((1 : Int64) / (64 : Int64)) + (1 : Int64))), .second] [(.long (((1 : Int64) / (64 : Int64)) + (1 : Int64))), (.long ((((1 : Int64) - (1 : Int64)) / ((64 : Int32).toInt64)) + (1 : Int64)))])) _
            refine XS.lcmp X26.here hx rfl (hb hby at_116) rfl ?_
            show Steps p.tables e below (T26.setTop (mkF m 117 #[.val (.long q0), .second, .val (.int p1), .val (.int (0 : Int32)), .val (.ref wS), .val (.long (64 : Int64)), .second, .val (.long (1 : Int64)), .second, .val (.long ((1 : Int64) / (64 : Int64))), .second, .val (.long ((1 : Int64) - ((1 : Int64) / (64 : Int64)) * (64 : Int64))), .second, .val (.long (((1 : Int64) / (64 : Int64)) + (1 : Int64))), .second] [(.int (lcmpW ((((1 : Int64) - (1 : Int64)) / ((64 : Int32).toInt64)) + (1 : Int64)) (((1 : Int64) / (64 : Int64)) + (1 : Int64))))])) _
            refine XS.ifNo X26.here hx rfl (hb hby at_117) rfl ((if0 _ _).trans (teq ((lw_eq _ _).mpr (own_w1_64 (by decide : 0 < (1 : Int64).toInt) hc93_22))).2) ?_
            show Steps p.tables e below (T26.setTop (mkF m 120 #[.val (.long q0), .second, .val (.int p1), .val (.int (0 : Int32)), .val (.ref wS), .val (.long (64 : Int64)), .second, .val (.long (1 : Int64)), .second, .val (.long ((1 : Int64) / (64 : Int64))), .second, .val (.long ((1 : Int64) - ((1 : Int64) / (64 : Int64)) * (64 : Int64))), .second, .val (.long (((1 : Int64) / (64 : Int64)) + (1 : Int64))), .second] [])) _
            refine XS.iconst X26.here hx rfl (hb hby at_120) ?_
            show Steps p.tables e below (T26.setTop (mkF m 121 #[.val (.long q0), .second, .val (.int p1), .val (.int (0 : Int32)), .val (.ref wS), .val (.long (64 : Int64)), .second, .val (.long (1 : Int64)), .second, .val (.long ((1 : Int64) / (64 : Int64))), .second, .val (.long ((1 : Int64) - ((1 : Int64) / (64 : Int64)) * (64 : Int64))), .second, .val (.long (((1 : Int64) / (64 : Int64)) + (1 : Int64))), .second] [(.int (1 : Int32))])) _
            refine XS.goto X26.here hx rfl (pc0 := 121) (pc' := 125) rfl (hb hby at_121) (by decide) (by decide) ?_
            show Steps p.tables e below (T26.setTop (mkF m 125 #[.val (.long q0), .second, .val (.int p1), .val (.int (0 : Int32)), .val (.ref wS), .val (.long (64 : Int64)), .second, .val (.long (1 : Int64)), .second, .val (.long ((1 : Int64) / (64 : Int64))), .second, .val (.long ((1 : Int64) - ((1 : Int64) / (64 : Int64)) * (64 : Int64))), .second, .val (.long (((1 : Int64) / (64 : Int64)) + (1 : Int64))), .second] [(.int (1 : Int32))])) _
            exact retN X26 hx (t := .boolean) Bd.returns (by simp) (hb hby at_125) hr
          · show own_Q0 n0 _ T26.heap _
            rw [e26]
            exact ⟨rfl, N26⟩
      · have pre29 : ∀ t, Steps p.tables e below (T3.setTop (mkF m 93 #[.val (.long q0), .second, .val (.int p1), .val (.int (0 : Int32)), .val (.ref wS), .val (.long (64 : Int64)), .second, .val (.long ((q0 &&& (255 : Int64)) + (1 : Int64))), .second, .val (.long (((q0 &&& (255 : Int64)) + (1 : Int64)) / (64 : Int64))), .second, .val (.long (((q0 &&& (255 : Int64)) + (1 : Int64)) - (((q0 &&& (255 : Int64)) + (1 : Int64)) / (64 : Int64)) * (64 : Int64))), .second, .unset, .unset] [(.int (lcmpW (((q0 &&& (255 : Int64)) + (1 : Int64)) - (((q0 &&& (255 : Int64)) + (1 : Int64)) / (64 : Int64)) * (64 : Int64)) (0 : Int64)))])) t → Steps p.tables e below (s₁.setTop (entryFrame m #[(.long q0), (.int p1)] maxLocals)) t := fun t kt => pre21 t (by
            show Steps p.tables e below (T3.setTop (mkF m 69 #[.val (.long q0), .second, .val (.int p1), .val (.int (0 : Int32)), .val (.ref wS), .val (.long (64 : Int64)), .second, .val (.long ((q0 &&& (255 : Int64)) + (1 : Int64))), .second, .unset, .unset, .unset, .unset, .unset, .unset] [(.int (lcmpW ((q0 &&& (255 : Int64)) + (1 : Int64)) (0 : Int64)))])) _
            refine XS.ifYes X3.here hx rfl (pc0 := 69) (pc' := 75) rfl (hb hby at_69) rfl ((if0 _ _).trans (feq (fun qq => hc69_20 ((lw_eq _ _).mp qq))).2) (by decide) (by decide) ?_
            show Steps p.tables e below (T3.setTop (mkF m 75 #[.val (.long q0), .second, .val (.int p1), .val (.int (0 : Int32)), .val (.ref wS), .val (.long (64 : Int64)), .second, .val (.long ((q0 &&& (255 : Int64)) + (1 : Int64))), .second, .unset, .unset, .unset, .unset, .unset, .unset] [])) _
            refine XS.lload X3.here hx rfl (hb hby at_75) rfl ?_
            show Steps p.tables e below (T3.setTop (mkF m 77 #[.val (.long q0), .second, .val (.int p1), .val (.int (0 : Int32)), .val (.ref wS), .val (.long (64 : Int64)), .second, .val (.long ((q0 &&& (255 : Int64)) + (1 : Int64))), .second, .unset, .unset, .unset, .unset, .unset, .unset] [(.long ((q0 &&& (255 : Int64)) + (1 : Int64)))])) _
            refine XS.lload X3.here hx rfl (hb hby at_77) rfl ?_
            show Steps p.tables e below (T3.setTop (mkF m 79 #[.val (.long q0), .second, .val (.int p1), .val (.int (0 : Int32)), .val (.ref wS), .val (.long (64 : Int64)), .second, .val (.long ((q0 &&& (255 : Int64)) + (1 : Int64))), .second, .unset, .unset, .unset, .unset, .unset, .unset] [(.long (64 : Int64)), (.long ((q0 &&& (255 : Int64)) + (1 : Int64)))])) _
            refine XS.ldiv X3.here hx rfl (hb hby at_79) rfl (by decide : ¬ ((64 : Int64) = (0 : Int64))) ?_
            show Steps p.tables e below (T3.setTop (mkF m 80 #[.val (.long q0), .second, .val (.int p1), .val (.int (0 : Int32)), .val (.ref wS), .val (.long (64 : Int64)), .second, .val (.long ((q0 &&& (255 : Int64)) + (1 : Int64))), .second, .unset, .unset, .unset, .unset, .unset, .unset] [(.long (((q0 &&& (255 : Int64)) + (1 : Int64)) / (64 : Int64)))])) _
            refine XS.lstore X3.here hx rfl (hb hby at_80) rfl (l' := #[.val (.long q0), .second, .val (.int p1), .val (.int (0 : Int32)), .val (.ref wS), .val (.long (64 : Int64)), .second, .val (.long ((q0 &&& (255 : Int64)) + (1 : Int64))), .second, .val (.long (((q0 &&& (255 : Int64)) + (1 : Int64)) / (64 : Int64))), .second, .unset, .unset, .unset, .unset]) rfl ?_
            show Steps p.tables e below (T3.setTop (mkF m 82 #[.val (.long q0), .second, .val (.int p1), .val (.int (0 : Int32)), .val (.ref wS), .val (.long (64 : Int64)), .second, .val (.long ((q0 &&& (255 : Int64)) + (1 : Int64))), .second, .val (.long (((q0 &&& (255 : Int64)) + (1 : Int64)) / (64 : Int64))), .second, .unset, .unset, .unset, .unset] [])) _
            refine XS.lload X3.here hx rfl (hb hby at_82) rfl ?_
            show Steps p.tables e below (T3.setTop (mkF m 84 #[.val (.long q0), .second, .val (.int p1), .val (.int (0 : Int32)), .val (.ref wS), .val (.long (64 : Int64)), .second, .val (.long ((q0 &&& (255 : Int64)) + (1 : Int64))), .second, .val (.long (((q0 &&& (255 : Int64)) + (1 : Int64)) / (64 : Int64))), .second, .unset, .unset, .unset, .unset] [(.long ((q0 &&& (255 : Int64)) + (1 : Int64)))])) _
            refine XS.lload X3.here hx rfl (hb hby at_84) rfl ?_
            show Steps p.tables e below (T3.setTop (mkF m 86 #[.val (.long q0), .second, .val (.int p1), .val (.int (0 : Int32)), .val (.ref wS), .val (.long (64 : Int64)), .second, .val (.long ((q0 &&& (255 : Int64)) + (1 : Int64))), .second, .val (.long (((q0 &&& (255 : Int64)) + (1 : Int64)) / (64 : Int64))), .second, .unset, .unset, .unset, .unset] [(.long (64 : Int64)), (.long ((q0 &&& (255 : Int64)) + (1 : Int64)))])) _
            refine XS.lrem X3.here hx rfl (hb hby at_86) rfl (by decide : ¬ ((64 : Int64) = (0 : Int64))) ?_
            show Steps p.tables e below (T3.setTop (mkF m 87 #[.val (.long q0), .second, .val (.int p1), .val (.int (0 : Int32)), .val (.ref wS), .val (.long (64 : Int64)), .second, .val (.long ((q0 &&& (255 : Int64)) + (1 : Int64))), .second, .val (.long (((q0 &&& (255 : Int64)) + (1 : Int64)) / (64 : Int64))), .second, .unset, .unset, .unset, .unset] [(.long (((q0 &&& (255 : Int64)) + (1 : Int64)) - (((q0 &&& (255 : Int64)) + (1 : Int64)) / (64 : Int64)) * (64 : Int64)))])) _
            refine XS.lstore X3.here hx rfl (hb hby at_87) rfl (l' := #[.val (.long q0), .second, .val (.int p1), .val (.int (0 : Int32)), .val (.ref wS), .val (.long (64 : Int64)), .second, .val (.long ((q0 &&& (255 : Int64)) + (1 : Int64))), .second, .val (.long (((q0 &&& (255 : Int64)) + (1 : Int64)) / (64 : Int64))), .second, .val (.long (((q0 &&& (255 : Int64)) + (1 : Int64)) - (((q0 &&& (255 : Int64)) + (1 : Int64)) / (64 : Int64)) * (64 : Int64))), .second, .unset, .unset]) rfl ?_
            show Steps p.tables e below (T3.setTop (mkF m 89 #[.val (.long q0), .second, .val (.int p1), .val (.int (0 : Int32)), .val (.ref wS), .val (.long (64 : Int64)), .second, .val (.long ((q0 &&& (255 : Int64)) + (1 : Int64))), .second, .val (.long (((q0 &&& (255 : Int64)) + (1 : Int64)) / (64 : Int64))), .second, .val (.long (((q0 &&& (255 : Int64)) + (1 : Int64)) - (((q0 &&& (255 : Int64)) + (1 : Int64)) / (64 : Int64)) * (64 : Int64))), .second, .unset, .unset] [])) _
            refine XS.lload X3.here hx rfl (hb hby at_89) rfl ?_
            show Steps p.tables e below (T3.setTop (mkF m 91 #[.val (.long q0), .second, .val (.int p1), .val (.int (0 : Int32)), .val (.ref wS), .val (.long (64 : Int64)), .second, .val (.long ((q0 &&& (255 : Int64)) + (1 : Int64))), .second, .val (.long (((q0 &&& (255 : Int64)) + (1 : Int64)) / (64 : Int64))), .second, .val (.long (((q0 &&& (255 : Int64)) + (1 : Int64)) - (((q0 &&& (255 : Int64)) + (1 : Int64)) / (64 : Int64)) * (64 : Int64))), .second, .unset, .unset] [(.long (((q0 &&& (255 : Int64)) + (1 : Int64)) - (((q0 &&& (255 : Int64)) + (1 : Int64)) / (64 : Int64)) * (64 : Int64)))])) _
            refine XS.lconst X3.here hx rfl (hb hby at_91) ?_
            show Steps p.tables e below (T3.setTop (mkF m 92 #[.val (.long q0), .second, .val (.int p1), .val (.int (0 : Int32)), .val (.ref wS), .val (.long (64 : Int64)), .second, .val (.long ((q0 &&& (255 : Int64)) + (1 : Int64))), .second, .val (.long (((q0 &&& (255 : Int64)) + (1 : Int64)) / (64 : Int64))), .second, .val (.long (((q0 &&& (255 : Int64)) + (1 : Int64)) - (((q0 &&& (255 : Int64)) + (1 : Int64)) / (64 : Int64)) * (64 : Int64))), .second, .unset, .unset] [(.long (0 : Int64)), (.long (((q0 &&& (255 : Int64)) + (1 : Int64)) - (((q0 &&& (255 : Int64)) + (1 : Int64)) / (64 : Int64)) * (64 : Int64)))])) _
            refine XS.lcmp X3.here hx rfl (hb hby at_92) rfl ?_
            exact kt)
        by_cases hc93_28 : (((q0 &&& (255 : Int64)) + (1 : Int64)) - (((q0 &&& (255 : Int64)) + (1 : Int64)) / (64 : Int64)) * (64 : Int64)) = (0 : Int64)
        · obtain ⟨cq31, kq31, q31a, q31b, q31c⟩ := isOf hZ e3 P_E_wS
          obtain ⟨_, _, ⟨T30, L30, k30, n30⟩, -, X30, ⟨Lc30, hQ30, l30, y30, z30⟩, st30⟩ := X3.virtualBack hx (y := (⟨"com/example/keys_to_bits/keystobits/FilterKind", "words", "(J)J"⟩ : MethodName)) (z := (⟨"com/example/keys_to_bits/keystobits/FilterKind", "words", "(J)J"⟩ : MethodName)) hown (mvT hZ (hw _ (List.mem_of_getElem? (i := 5) rfl))) (mvT hZ (hw _ (List.mem_of_getElem? (i := 6) rfl))) (notFace_of_selects (args := #[]) (mvT hZ (hw _ (List.mem_of_getElem? (i := 8) rfl)))) (mvT hZ (hw _ (List.mem_of_getElem? (i := 8) rfl))) (mvT hZ (hw _ (List.mem_of_getElem? (i := 7) rfl))) (by decide) (backOf (W := 0) (rmW1 l Z a0 hw [] wS ((q0 &&& (255 : Int64)) + (1 : Int64)) h0 n0 Z0 P_E_wS P_F_wS_FilterKind_bitsPerCell) hZ (hw _ (List.mem_of_getElem? (i := 9) rfl)) (hw _ (List.mem_of_getElem? (i := 1) rfl)) (by decide) (by decide)) q31a q31c (g := (mkF m 111 #[.val (.long q0), .second, .val (.int p1), .val (.int (0 : Int32)), .val (.ref wS), .val (.long (64 : Int64)), .second, .val (.long ((q0 &&& (255 : Int64)) + (1 : Int64))), .second, .val (.long (((q0 &&& (255 : Int64)) + (1 : Int64)) / (64 : Int64))), .second, .val (.long (((q0 &&& (255 : Int64)) + (1 : Int64)) - (((q0 &&& (255 : Int64)) + (1 : Int64)) / (64 : Int64)) * (64 : Int64))), .second, .val (.long (((q0 &&& (255 : Int64)) + (1 : Int64)) / (64 : Int64))), .second] [(.long ((q0 &&& (255 : Int64)) + (1 : Int64))), (.ref wS)])) rfl (by rw [hml]; rfl) (Steps.refl _) (argsL := [(.long ((q0 &&& (255 : Int64)) + (1 : Int64)))]) (rest := []) (lenOf pd__J_J rfl) rfl (by show 2 * 0 + _ ≤ _; exact Nat.le_of_eq rfl) (hb hby at_111) (fun _ _ => ⟨rfl, e3, (by decide : 0 + 0 ≤ _), (by decide : 0 + 0 ≤ _)⟩)
          dsimp only [Pt.U, Pt.locs, Pt.cells, Pt.slots] at X30 l30 y30 z30 st30 hQ30
          subst l30 y30 z30
          obtain ⟨rfl, N30q, e30⟩ := hQ30
          have N30 := Fr.app N0 N30q
          obtain ⟨fs, hr, hrun, hended, hW, hsame⟩ := X30.leave (v := some (.int (1 : Int32))) (fun h => by rw [Bd.returns] at h; cases h)
          refine ⟨_, _, pre29 _ ?_, hrun, hended, _, _, rfl, ?_, ⟨_, rfl⟩, hW, hsame.mono (by decide) (by decide)⟩
          · show Steps p.tables e below (T3.setTop (mkF m 93 #[.val (.long q0), .second, .val (.int p1), .val (.int (0 : Int32)), .val (.ref wS), .val (.long (64 : Int64)), .second, .val (.long ((q0 &&& (255 : Int64)) + (1 : Int64))), .second, .val (.long (((q0 &&& (255 : Int64)) + (1 : Int64)) / (64 : Int64))), .second, .val (.long (((q0 &&& (255 : Int64)) + (1 : Int64)) - (((q0 &&& (255 : Int64)) + (1 : Int64)) / (64 : Int64)) * (64 : Int64))), .second, .unset, .unset] [(.int (lcmpW (((q0 &&& (255 : Int64)) + (1 : Int64)) - (((q0 &&& (255 : Int64)) + (1 : Int64)) / (64 : Int64)) * (64 : Int64)) (0 : Int64)))])) _
            refine XS.ifNo X3.here hx rfl (hb hby at_93) rfl ((if0 _ _).trans (teq ((lw_eq _ _).mpr hc93_28)).2) ?_
            show Steps p.tables e below (T3.setTop (mkF m 96 #[.val (.long q0), .second, .val (.int p1), .val (.int (0 : Int32)), .val (.ref wS), .val (.long (64 : Int64)), .second, .val (.long ((q0 &&& (255 : Int64)) + (1 : Int64))), .second, .val (.long (((q0 &&& (255 : Int64)) + (1 : Int64)) / (64 : Int64))), .second, .val (.long (((q0 &&& (255 : Int64)) + (1 : Int64)) - (((q0 &&& (255 : Int64)) + (1 : Int64)) / (64 : Int64)) * (64 : Int64))), .second, .unset, .unset] [])) _
            refine XS.lload X3.here hx rfl (hb hby at_96) rfl ?_
            show Steps p.tables e below (T3.setTop (mkF m 98 #[.val (.long q0), .second, .val (.int p1), .val (.int (0 : Int32)), .val (.ref wS), .val (.long (64 : Int64)), .second, .val (.long ((q0 &&& (255 : Int64)) + (1 : Int64))), .second, .val (.long (((q0 &&& (255 : Int64)) + (1 : Int64)) / (64 : Int64))), .second, .val (.long (((q0 &&& (255 : Int64)) + (1 : Int64)) - (((q0 &&& (255 : Int64)) + (1 : Int64)) / (64 : Int64)) * (64 : Int64))), .second, .unset, .unset] [(.long (((q0 &&& (255 : Int64)) + (1 : Int64)) / (64 : Int64)))])) _
            refine XS.goto X3.here hx rfl (pc0 := 98) (pc' := 105) rfl (hb hby at_98) (by decide) (by decide) ?_
            show Steps p.tables e below (T3.setTop (mkF m 105 #[.val (.long q0), .second, .val (.int p1), .val (.int (0 : Int32)), .val (.ref wS), .val (.long (64 : Int64)), .second, .val (.long ((q0 &&& (255 : Int64)) + (1 : Int64))), .second, .val (.long (((q0 &&& (255 : Int64)) + (1 : Int64)) / (64 : Int64))), .second, .val (.long (((q0 &&& (255 : Int64)) + (1 : Int64)) - (((q0 &&& (255 : Int64)) + (1 : Int64)) / (64 : Int64)) * (64 : Int64))), .second, .unset, .unset] [(.long (((q0 &&& (255 : Int64)) + (1 : Int64)) / (64 : Int64)))])) _
            refine XS.lstore X3.here hx rfl (hb hby at_105) rfl (l' := #[.val (.long q0), .second, .val (.int p1), .val (.int (0 : Int32)), .val (.ref wS), .val (.long (64 : Int64)), .second, .val (.long ((q0 &&& (255 : Int64)) + (1 : Int64))), .second, .val (.long (((q0 &&& (255 : Int64)) + (1 : Int64)) / (64 : Int64))), .second, .val (.long (((q0 &&& (255 : Int64)) + (1 : Int64)) - (((q0 &&& (255 : Int64)) + (1 : Int64)) / (64 : Int64)) * (64 : Int64))), .second, .val (.long (((q0 &&& (255 : Int64)) + (1 : Int64)) / (64 : Int64))), .second]) rfl ?_
            show Steps p.tables e below (T3.setTop (mkF m 107 #[.val (.long q0), .second, .val (.int p1), .val (.int (0 : Int32)), .val (.ref wS), .val (.long (64 : Int64)), .second, .val (.long ((q0 &&& (255 : Int64)) + (1 : Int64))), .second, .val (.long (((q0 &&& (255 : Int64)) + (1 : Int64)) / (64 : Int64))), .second, .val (.long (((q0 &&& (255 : Int64)) + (1 : Int64)) - (((q0 &&& (255 : Int64)) + (1 : Int64)) / (64 : Int64)) * (64 : Int64))), .second, .val (.long (((q0 &&& (255 : Int64)) + (1 : Int64)) / (64 : Int64))), .second] [])) _
            refine XS.aload X3.here hx rfl (hb hby at_107) rfl rfl ?_
            show Steps p.tables e below (T3.setTop (mkF m 109 #[.val (.long q0), .second, .val (.int p1), .val (.int (0 : Int32)), .val (.ref wS), .val (.long (64 : Int64)), .second, .val (.long ((q0 &&& (255 : Int64)) + (1 : Int64))), .second, .val (.long (((q0 &&& (255 : Int64)) + (1 : Int64)) / (64 : Int64))), .second, .val (.long (((q0 &&& (255 : Int64)) + (1 : Int64)) - (((q0 &&& (255 : Int64)) + (1 : Int64)) / (64 : Int64)) * (64 : Int64))), .second, .val (.long (((q0 &&& (255 : Int64)) + (1 : Int64)) / (64 : Int64))), .second] [(.ref wS)])) _
            refine XS.lload X3.here hx rfl (hb hby at_109) rfl ?_
            show Steps p.tables e below (T3.setTop (mkF m 111 #[.val (.long q0), .second, .val (.int p1), .val (.int (0 : Int32)), .val (.ref wS), .val (.long (64 : Int64)), .second, .val (.long ((q0 &&& (255 : Int64)) + (1 : Int64))), .second, .val (.long (((q0 &&& (255 : Int64)) + (1 : Int64)) / (64 : Int64))), .second, .val (.long (((q0 &&& (255 : Int64)) + (1 : Int64)) - (((q0 &&& (255 : Int64)) + (1 : Int64)) / (64 : Int64)) * (64 : Int64))), .second, .val (.long (((q0 &&& (255 : Int64)) + (1 : Int64)) / (64 : Int64))), .second] [(.long ((q0 &&& (255 : Int64)) + (1 : Int64))), (.ref wS)])) _
            refine st30.trans ?_
            show Steps p.tables e below (T30.setTop (mkF m 114 #[.val (.long q0), .second, .val (.int p1), .val (.int (0 : Int32)), .val (.ref wS), .val (.long (64 : Int64)), .second, .val (.long ((q0 &&& (255 : Int64)) + (1 : Int64))), .second, .val (.long (((q0 &&& (255 : Int64)) + (1 : Int64)) / (64 : Int64))), .second, .val (.long (((q0 &&& (255 : Int64)) + (1 : Int64)) - (((q0 &&& (255 : Int64)) + (1 : Int64)) / (64 : Int64)) * (64 : Int64))), .second, .val (.long (((q0 &&& (255 : Int64)) + (1 : Int64)) / (64 : Int64))), .second] [(.long (((((q0 &&& (255 : Int64)) + (1 : Int64)) - (1 : Int64)) / ((64 : Int32).toInt64)) + (1 : Int64)))])) _
            refine XS.lload X30.here hx rfl (hb hby at_114) rfl ?_
            show Steps p.tables e below (T30.setTop (mkF m 116 #[.val (.long q0), .second, .val (.int p1), .val (.int (0 : Int32)), .val (.ref wS), .val (.long (64 : Int64)), .second, .val (.long ((q0 &&& (255 : Int64)) + (1 : Int64))), .second, .val (.long (((q0 &&& (255 : Int64)) + (1 : Int64)) / (64 : Int64))), .second, .val (.long (((q0 &&& (255 : Int64)) + (1 : Int64)) - (((q0 &&& (255 : Int64)) + (1 : Int64)) / (64 : Int64)) * (64 : Int64))), .second, .val (.long (((q0 &&& (255 : Int64)) + (1 : Int64)) / (64 : Int64))), .second] [(.long (((q0 &&& (255 : Int64)) + (1 : Int64)) / (64 : Int64))), (.long (((((q0 &&& (255 : Int64)) + (1 : Int64)) - (1 : Int64)) / ((64 : Int32).toInt64)) + (1 : Int64)))])) _
            refine XS.lcmp X30.here hx rfl (hb hby at_116) rfl ?_
            show Steps p.tables e below (T30.setTop (mkF m 117 #[.val (.long q0), .second, .val (.int p1), .val (.int (0 : Int32)), .val (.ref wS), .val (.long (64 : Int64)), .second, .val (.long ((q0 &&& (255 : Int64)) + (1 : Int64))), .second, .val (.long (((q0 &&& (255 : Int64)) + (1 : Int64)) / (64 : Int64))), .second, .val (.long (((q0 &&& (255 : Int64)) + (1 : Int64)) - (((q0 &&& (255 : Int64)) + (1 : Int64)) / (64 : Int64)) * (64 : Int64))), .second, .val (.long (((q0 &&& (255 : Int64)) + (1 : Int64)) / (64 : Int64))), .second] [(.int (lcmpW (((((q0 &&& (255 : Int64)) + (1 : Int64)) - (1 : Int64)) / ((64 : Int32).toInt64)) + (1 : Int64)) (((q0 &&& (255 : Int64)) + (1 : Int64)) / (64 : Int64))))])) _
            refine XS.ifNo X30.here hx rfl (hb hby at_117) rfl ((if0 _ _).trans (teq ((lw_eq _ _).mpr (own_w0_64 (own_cp1 q0) hc93_28))).2) ?_
            show Steps p.tables e below (T30.setTop (mkF m 120 #[.val (.long q0), .second, .val (.int p1), .val (.int (0 : Int32)), .val (.ref wS), .val (.long (64 : Int64)), .second, .val (.long ((q0 &&& (255 : Int64)) + (1 : Int64))), .second, .val (.long (((q0 &&& (255 : Int64)) + (1 : Int64)) / (64 : Int64))), .second, .val (.long (((q0 &&& (255 : Int64)) + (1 : Int64)) - (((q0 &&& (255 : Int64)) + (1 : Int64)) / (64 : Int64)) * (64 : Int64))), .second, .val (.long (((q0 &&& (255 : Int64)) + (1 : Int64)) / (64 : Int64))), .second] [])) _
            refine XS.iconst X30.here hx rfl (hb hby at_120) ?_
            show Steps p.tables e below (T30.setTop (mkF m 121 #[.val (.long q0), .second, .val (.int p1), .val (.int (0 : Int32)), .val (.ref wS), .val (.long (64 : Int64)), .second, .val (.long ((q0 &&& (255 : Int64)) + (1 : Int64))), .second, .val (.long (((q0 &&& (255 : Int64)) + (1 : Int64)) / (64 : Int64))), .second, .val (.long (((q0 &&& (255 : Int64)) + (1 : Int64)) - (((q0 &&& (255 : Int64)) + (1 : Int64)) / (64 : Int64)) * (64 : Int64))), .second, .val (.long (((q0 &&& (255 : Int64)) + (1 : Int64)) / (64 : Int64))), .second] [(.int (1 : Int32))])) _
            refine XS.goto X30.here hx rfl (pc0 := 121) (pc' := 125) rfl (hb hby at_121) (by decide) (by decide) ?_
            show Steps p.tables e below (T30.setTop (mkF m 125 #[.val (.long q0), .second, .val (.int p1), .val (.int (0 : Int32)), .val (.ref wS), .val (.long (64 : Int64)), .second, .val (.long ((q0 &&& (255 : Int64)) + (1 : Int64))), .second, .val (.long (((q0 &&& (255 : Int64)) + (1 : Int64)) / (64 : Int64))), .second, .val (.long (((q0 &&& (255 : Int64)) + (1 : Int64)) - (((q0 &&& (255 : Int64)) + (1 : Int64)) / (64 : Int64)) * (64 : Int64))), .second, .val (.long (((q0 &&& (255 : Int64)) + (1 : Int64)) / (64 : Int64))), .second] [(.int (1 : Int32))])) _
            exact retN X30 hx (t := .boolean) Bd.returns (by simp) (hb hby at_125) hr
          · show own_Q0 n0 _ T30.heap _
            rw [e30]
            exact ⟨rfl, N30⟩
        · obtain ⟨cq33, kq33, q33a, q33b, q33c⟩ := isOf hZ e3 P_E_wS
          obtain ⟨_, _, ⟨T32, L32, k32, n32⟩, -, X32, ⟨Lc32, hQ32, l32, y32, z32⟩, st32⟩ := X3.virtualBack hx (y := (⟨"com/example/keys_to_bits/keystobits/FilterKind", "words", "(J)J"⟩ : MethodName)) (z := (⟨"com/example/keys_to_bits/keystobits/FilterKind", "words", "(J)J"⟩ : MethodName)) hown (mvT hZ (hw _ (List.mem_of_getElem? (i := 5) rfl))) (mvT hZ (hw _ (List.mem_of_getElem? (i := 6) rfl))) (notFace_of_selects (args := #[]) (mvT hZ (hw _ (List.mem_of_getElem? (i := 8) rfl)))) (mvT hZ (hw _ (List.mem_of_getElem? (i := 8) rfl))) (mvT hZ (hw _ (List.mem_of_getElem? (i := 7) rfl))) (by decide) (backOf (W := 0) (rmW1 l Z a0 hw [] wS ((q0 &&& (255 : Int64)) + (1 : Int64)) h0 n0 Z0 P_E_wS P_F_wS_FilterKind_bitsPerCell) hZ (hw _ (List.mem_of_getElem? (i := 9) rfl)) (hw _ (List.mem_of_getElem? (i := 1) rfl)) (by decide) (by decide)) q33a q33c (g := (mkF m 111 #[.val (.long q0), .second, .val (.int p1), .val (.int (0 : Int32)), .val (.ref wS), .val (.long (64 : Int64)), .second, .val (.long ((q0 &&& (255 : Int64)) + (1 : Int64))), .second, .val (.long (((q0 &&& (255 : Int64)) + (1 : Int64)) / (64 : Int64))), .second, .val (.long (((q0 &&& (255 : Int64)) + (1 : Int64)) - (((q0 &&& (255 : Int64)) + (1 : Int64)) / (64 : Int64)) * (64 : Int64))), .second, .val (.long ((((q0 &&& (255 : Int64)) + (1 : Int64)) / (64 : Int64)) + (1 : Int64))), .second] [(.long ((q0 &&& (255 : Int64)) + (1 : Int64))), (.ref wS)])) rfl (by rw [hml]; rfl) (Steps.refl _) (argsL := [(.long ((q0 &&& (255 : Int64)) + (1 : Int64)))]) (rest := []) (lenOf pd__J_J rfl) rfl (by show 2 * 0 + _ ≤ _; exact Nat.le_of_eq rfl) (hb hby at_111) (fun _ _ => ⟨rfl, e3, (by decide : 0 + 0 ≤ _), (by decide : 0 + 0 ≤ _)⟩)
          dsimp only [Pt.U, Pt.locs, Pt.cells, Pt.slots] at X32 l32 y32 z32 st32 hQ32
          subst l32 y32 z32
          obtain ⟨rfl, N32q, e32⟩ := hQ32
          have N32 := Fr.app N0 N32q
          obtain ⟨fs, hr, hrun, hended, hW, hsame⟩ := X32.leave (v := some (.int (1 : Int32))) (fun h => by rw [Bd.returns] at h; cases h)
          refine ⟨_, _, pre29 _ ?_, hrun, hended, _, _, rfl, ?_, ⟨_, rfl⟩, hW, hsame.mono (by decide) (by decide)⟩
          · show Steps p.tables e below (T3.setTop (mkF m 93 #[.val (.long q0), .second, .val (.int p1), .val (.int (0 : Int32)), .val (.ref wS), .val (.long (64 : Int64)), .second, .val (.long ((q0 &&& (255 : Int64)) + (1 : Int64))), .second, .val (.long (((q0 &&& (255 : Int64)) + (1 : Int64)) / (64 : Int64))), .second, .val (.long (((q0 &&& (255 : Int64)) + (1 : Int64)) - (((q0 &&& (255 : Int64)) + (1 : Int64)) / (64 : Int64)) * (64 : Int64))), .second, .unset, .unset] [(.int (lcmpW (((q0 &&& (255 : Int64)) + (1 : Int64)) - (((q0 &&& (255 : Int64)) + (1 : Int64)) / (64 : Int64)) * (64 : Int64)) (0 : Int64)))])) _
            refine XS.ifYes X3.here hx rfl (pc0 := 93) (pc' := 101) rfl (hb hby at_93) rfl ((if0 _ _).trans (feq (fun qq => hc93_28 ((lw_eq _ _).mp qq))).2) (by decide) (by decide) ?_
            show Steps p.tables e below (T3.setTop (mkF m 101 #[.val (.long q0), .second, .val (.int p1), .val (.int (0 : Int32)), .val (.ref wS), .val (.long (64 : Int64)), .second, .val (.long ((q0 &&& (255 : Int64)) + (1 : Int64))), .second, .val (.long (((q0 &&& (255 : Int64)) + (1 : Int64)) / (64 : Int64))), .second, .val (.long (((q0 &&& (255 : Int64)) + (1 : Int64)) - (((q0 &&& (255 : Int64)) + (1 : Int64)) / (64 : Int64)) * (64 : Int64))), .second, .unset, .unset] [])) _
            refine XS.lload X3.here hx rfl (hb hby at_101) rfl ?_
            show Steps p.tables e below (T3.setTop (mkF m 103 #[.val (.long q0), .second, .val (.int p1), .val (.int (0 : Int32)), .val (.ref wS), .val (.long (64 : Int64)), .second, .val (.long ((q0 &&& (255 : Int64)) + (1 : Int64))), .second, .val (.long (((q0 &&& (255 : Int64)) + (1 : Int64)) / (64 : Int64))), .second, .val (.long (((q0 &&& (255 : Int64)) + (1 : Int64)) - (((q0 &&& (255 : Int64)) + (1 : Int64)) / (64 : Int64)) * (64 : Int64))), .second, .unset, .unset] [(.long (((q0 &&& (255 : Int64)) + (1 : Int64)) / (64 : Int64)))])) _
            refine XS.lconst X3.here hx rfl (hb hby at_103) ?_
            show Steps p.tables e below (T3.setTop (mkF m 104 #[.val (.long q0), .second, .val (.int p1), .val (.int (0 : Int32)), .val (.ref wS), .val (.long (64 : Int64)), .second, .val (.long ((q0 &&& (255 : Int64)) + (1 : Int64))), .second, .val (.long (((q0 &&& (255 : Int64)) + (1 : Int64)) / (64 : Int64))), .second, .val (.long (((q0 &&& (255 : Int64)) + (1 : Int64)) - (((q0 &&& (255 : Int64)) + (1 : Int64)) / (64 : Int64)) * (64 : Int64))), .second, .unset, .unset] [(.long (1 : Int64)), (.long (((q0 &&& (255 : Int64)) + (1 : Int64)) / (64 : Int64)))])) _
            refine XS.ladd X3.here hx rfl (hb hby at_104) rfl ?_
            show Steps p.tables e below (T3.setTop (mkF m 105 #[.val (.long q0), .second, .val (.int p1), .val (.int (0 : Int32)), .val (.ref wS), .val (.long (64 : Int64)), .second, .val (.long ((q0 &&& (255 : Int64)) + (1 : Int64))), .second, .val (.long (((q0 &&& (255 : Int64)) + (1 : Int64)) / (64 : Int64))), .second, .val (.long (((q0 &&& (255 : Int64)) + (1 : Int64)) - (((q0 &&& (255 : Int64)) + (1 : Int64)) / (64 : Int64)) * (64 : Int64))), .second, .unset, .unset] [(.long ((((q0 &&& (255 : Int64)) + (1 : Int64)) / (64 : Int64)) + (1 : Int64)))])) _
            refine XS.lstore X3.here hx rfl (hb hby at_105) rfl (l' := #[.val (.long q0), .second, .val (.int p1), .val (.int (0 : Int32)), .val (.ref wS), .val (.long (64 : Int64)), .second, .val (.long ((q0 &&& (255 : Int64)) + (1 : Int64))), .second, .val (.long (((q0 &&& (255 : Int64)) + (1 : Int64)) / (64 : Int64))), .second, .val (.long (((q0 &&& (255 : Int64)) + (1 : Int64)) - (((q0 &&& (255 : Int64)) + (1 : Int64)) / (64 : Int64)) * (64 : Int64))), .second, .val (.long ((((q0 &&& (255 : Int64)) + (1 : Int64)) / (64 : Int64)) + (1 : Int64))), .second]) rfl ?_
            show Steps p.tables e below (T3.setTop (mkF m 107 #[.val (.long q0), .second, .val (.int p1), .val (.int (0 : Int32)), .val (.ref wS), .val (.long (64 : Int64)), .second, .val (.long ((q0 &&& (255 : Int64)) + (1 : Int64))), .second, .val (.long (((q0 &&& (255 : Int64)) + (1 : Int64)) / (64 : Int64))), .second, .val (.long (((q0 &&& (255 : Int64)) + (1 : Int64)) - (((q0 &&& (255 : Int64)) + (1 : Int64)) / (64 : Int64)) * (64 : Int64))), .second, .val (.long ((((q0 &&& (255 : Int64)) + (1 : Int64)) / (64 : Int64)) + (1 : Int64))), .second] [])) _
            refine XS.aload X3.here hx rfl (hb hby at_107) rfl rfl ?_
            show Steps p.tables e below (T3.setTop (mkF m 109 #[.val (.long q0), .second, .val (.int p1), .val (.int (0 : Int32)), .val (.ref wS), .val (.long (64 : Int64)), .second, .val (.long ((q0 &&& (255 : Int64)) + (1 : Int64))), .second, .val (.long (((q0 &&& (255 : Int64)) + (1 : Int64)) / (64 : Int64))), .second, .val (.long (((q0 &&& (255 : Int64)) + (1 : Int64)) - (((q0 &&& (255 : Int64)) + (1 : Int64)) / (64 : Int64)) * (64 : Int64))), .second, .val (.long ((((q0 &&& (255 : Int64)) + (1 : Int64)) / (64 : Int64)) + (1 : Int64))), .second] [(.ref wS)])) _
            refine XS.lload X3.here hx rfl (hb hby at_109) rfl ?_
            show Steps p.tables e below (T3.setTop (mkF m 111 #[.val (.long q0), .second, .val (.int p1), .val (.int (0 : Int32)), .val (.ref wS), .val (.long (64 : Int64)), .second, .val (.long ((q0 &&& (255 : Int64)) + (1 : Int64))), .second, .val (.long (((q0 &&& (255 : Int64)) + (1 : Int64)) / (64 : Int64))), .second, .val (.long (((q0 &&& (255 : Int64)) + (1 : Int64)) - (((q0 &&& (255 : Int64)) + (1 : Int64)) / (64 : Int64)) * (64 : Int64))), .second, .val (.long ((((q0 &&& (255 : Int64)) + (1 : Int64)) / (64 : Int64)) + (1 : Int64))), .second] [(.long ((q0 &&& (255 : Int64)) + (1 : Int64))), (.ref wS)])) _
            refine st32.trans ?_
            show Steps p.tables e below (T32.setTop (mkF m 114 #[.val (.long q0), .second, .val (.int p1), .val (.int (0 : Int32)), .val (.ref wS), .val (.long (64 : Int64)), .second, .val (.long ((q0 &&& (255 : Int64)) + (1 : Int64))), .second, .val (.long (((q0 &&& (255 : Int64)) + (1 : Int64)) / (64 : Int64))), .second, .val (.long (((q0 &&& (255 : Int64)) + (1 : Int64)) - (((q0 &&& (255 : Int64)) + (1 : Int64)) / (64 : Int64)) * (64 : Int64))), .second, .val (.long ((((q0 &&& (255 : Int64)) + (1 : Int64)) / (64 : Int64)) + (1 : Int64))), .second] [(.long (((((q0 &&& (255 : Int64)) + (1 : Int64)) - (1 : Int64)) / ((64 : Int32).toInt64)) + (1 : Int64)))])) _
            refine XS.lload X32.here hx rfl (hb hby at_114) rfl ?_
            show Steps p.tables e below (T32.setTop (mkF m 116 #[.val (.long q0), .second, .val (.int p1), .val (.int (0 : Int32)), .val (.ref wS), .val (.long (64 : Int64)), .second, .val (.long ((q0 &&& (255 : Int64)) + (1 : Int64))), .second, .val (.long (((q0 &&& (255 : Int64)) + (1 : Int64)) / (64 : Int64))), .second, .val (.long (((q0 &&& (255 : Int64)) + (1 : Int64)) - (((q0 &&& (255 : Int64)) + (1 : Int64)) / (64 : Int64)) * (64 : Int64))), .second, .val (.long ((((q0 &&& (255 : Int64)) + (1 : Int64)) / (64 : Int64)) + (1 : Int64))), .second] [(.long ((((q0 &&& (255 : Int64)) + (1 : Int64)) / (64 : Int64)) + (1 : Int64))), (.long (((((q0 &&& (255 : Int64)) + (1 : Int64)) - (1 : Int64)) / ((64 : Int32).toInt64)) + (1 : Int64)))])) _
            refine XS.lcmp X32.here hx rfl (hb hby at_116) rfl ?_
            show Steps p.tables e below (T32.setTop (mkF m 117 #[.val (.long q0), .second, .val (.int p1), .val (.int (0 : Int32)), .val (.ref wS), .val (.long (64 : Int64)), .second, .val (.long ((q0 &&& (255 : Int64)) + (1 : Int64))), .second, .val (.long (((q0 &&& (255 : Int64)) + (1 : Int64)) / (64 : Int64))), .second, .val (.long (((q0 &&& (255 : Int64)) + (1 : Int64)) - (((q0 &&& (255 : Int64)) + (1 : Int64)) / (64 : Int64)) * (64 : Int64))), .second, .val (.long ((((q0 &&& (255 : Int64)) + (1 : Int64)) / (64 : Int64)) + (1 : Int64))), .second] [(.int (lcmpW (((((q0 &&& (255 : Int64)) + (1 : Int64)) - (1 : Int64)) / ((64 : Int32).toInt64)) + (1 : Int64)) ((((q0 &&& (255 : Int64)) + (1 : Int64)) / (64 : Int64)) + (1 : Int64))))])) _
            refine XS.ifNo X32.here hx rfl (hb hby at_117) rfl ((if0 _ _).trans (teq ((lw_eq _ _).mpr (own_w1_64 (own_cp1 q0) hc93_28))).2) ?_
            show Steps p.tables e below (T32.setTop (mkF m 120 #[.val (.long q0), .second, .val (.int p1), .val (.int (0 : Int32)), .val (.ref wS), .val (.long (64 : Int64)), .second, .val (.long ((q0 &&& (255 : Int64)) + (1 : Int64))), .second, .val (.long (((q0 &&& (255 : Int64)) + (1 : Int64)) / (64 : Int64))), .second, .val (.long (((q0 &&& (255 : Int64)) + (1 : Int64)) - (((q0 &&& (255 : Int64)) + (1 : Int64)) / (64 : Int64)) * (64 : Int64))), .second, .val (.long ((((q0 &&& (255 : Int64)) + (1 : Int64)) / (64 : Int64)) + (1 : Int64))), .second] [])) _
            refine XS.iconst X32.here hx rfl (hb hby at_120) ?_
            show Steps p.tables e below (T32.setTop (mkF m 121 #[.val (.long q0), .second, .val (.int p1), .val (.int (0 : Int32)), .val (.ref wS), .val (.long (64 : Int64)), .second, .val (.long ((q0 &&& (255 : Int64)) + (1 : Int64))), .second, .val (.long (((q0 &&& (255 : Int64)) + (1 : Int64)) / (64 : Int64))), .second, .val (.long (((q0 &&& (255 : Int64)) + (1 : Int64)) - (((q0 &&& (255 : Int64)) + (1 : Int64)) / (64 : Int64)) * (64 : Int64))), .second, .val (.long ((((q0 &&& (255 : Int64)) + (1 : Int64)) / (64 : Int64)) + (1 : Int64))), .second] [(.int (1 : Int32))])) _
            refine XS.goto X32.here hx rfl (pc0 := 121) (pc' := 125) rfl (hb hby at_121) (by decide) (by decide) ?_
            show Steps p.tables e below (T32.setTop (mkF m 125 #[.val (.long q0), .second, .val (.int p1), .val (.int (0 : Int32)), .val (.ref wS), .val (.long (64 : Int64)), .second, .val (.long ((q0 &&& (255 : Int64)) + (1 : Int64))), .second, .val (.long (((q0 &&& (255 : Int64)) + (1 : Int64)) / (64 : Int64))), .second, .val (.long (((q0 &&& (255 : Int64)) + (1 : Int64)) - (((q0 &&& (255 : Int64)) + (1 : Int64)) / (64 : Int64)) * (64 : Int64))), .second, .val (.long ((((q0 &&& (255 : Int64)) + (1 : Int64)) / (64 : Int64)) + (1 : Int64))), .second] [(.int (1 : Int32))])) _
            exact retN X32 hx (t := .boolean) Bd.returns (by simp) (hb hby at_125) hr
          · show own_Q0 n0 _ T32.heap _
            rw [e32]
            exact ⟨rfl, N32⟩
  · obtain ⟨T34, X34, e34, st34⟩ := getS2 X0 hx hZ hown (host := "") (Or.inl (hw _ (List.mem_of_getElem? (i := 18) rfl))) Via.refl e0 P_S_FilterKind_COUNTING (g := (mkF m 16 #[.val (.long q0), .second, .val (.int p1), .val (.int (1 : Int32)), .unset, .unset, .unset, .unset, .unset, .unset, .unset, .unset, .unset, .unset, .unset] [])) rfl (hb hby at_16)
    have pre36 : ∀ t, Steps p.tables e below (T34.setTop (mkF m 45 #[.val (.long q0), .second, .val (.int p1), .val (.int (1 : Int32)), .val (.ref wC), .val (.long (16 : Int64)), .second, .unset, .unset, .unset, .unset, .unset, .unset, .unset, .unset] [(.int (p1 &&& (2 : Int32)))])) t → Steps p.tables e below (s₁.setTop (entryFrame m #[(.long q0), (.int p1)] maxLocals)) t := fun t kt => pre2 t (by
        show Steps p.tables e below (s₁.setTop (mkF m 3 #[.val (.long q0), .second, .val (.int p1), .unset, .unset, .unset, .unset, .unset, .unset, .unset, .unset, .unset, .unset, .unset, .unset] [(.int (p1 &&& (1 : Int32)))])) _
        refine XS.ifNo X0.here hx rfl (hb hby at_3) rfl ((if0 _ _).trans (feq hc3_1).1) ?_
        show Steps p.tables e below (s₁.setTop (mkF m 6 #[.val (.long q0), .second, .val (.int p1), .unset, .unset, .unset, .unset, .unset, .unset, .unset, .unset, .unset, .unset, .unset, .unset] [])) _
        refine XS.iconst X0.here hx rfl (hb hby at_6) ?_
        show Steps p.tables e below (s₁.setTop (mkF m 7 #[.val (.long q0), .second, .val (.int p1), .unset, .unset, .unset, .unset, .unset, .unset, .unset, .unset, .unset, .unset, .unset, .unset] [(.int (1 : Int32))])) _
        refine XS.goto X0.here hx rfl (pc0 := 7) (pc' := 11) rfl (hb hby at_7) (by decide) (by decide) ?_
        show Steps p.tables e below (s₁.setTop (mkF m 11 #[.val (.long q0), .second, .val (.int p1), .unset, .unset, .unset, .unset, .unset, .unset, .unset, .unset, .unset, .unset, .unset, .unset] [(.int (1 : Int32))])) _
        refine XS.istoreN X0.here hx rfl (hb hby at_11) rfl (l' := #[.val (.long q0), .second, .val (.int p1), .val (.int (1 : Int32)), .unset, .unset, .unset, .unset, .unset, .unset, .unset, .unset, .unset, .unset, .unset]) rfl ?_
        show Steps p.tables e below (s₁.setTop (mkF m 12 #[.val (.long q0), .second, .val (.int p1), .val (.int (1 : Int32)), .unset, .unset, .unset, .unset, .unset, .unset, .unset, .unset, .unset, .unset, .unset] [])) _
        refine XS.iloadN X0.here hx rfl (hb hby at_12) rfl ?_
        show Steps p.tables e below (s₁.setTop (mkF m 13 #[.val (.long q0), .second, .val (.int p1), .val (.int (1 : Int32)), .unset, .unset, .unset, .unset, .unset, .unset, .unset, .unset, .unset, .unset, .unset] [(.int (1 : Int32))])) _
        refine XS.ifNo X0.here hx rfl (hb hby at_13) rfl ((if0 _ _).trans (feq (by decide : ¬ ((1 : Int32) = (0 : Int32)))).1) ?_
        show Steps p.tables e below (s₁.setTop (mkF m 16 #[.val (.long q0), .second, .val (.int p1), .val (.int (1 : Int32)), .unset, .unset, .unset, .unset, .unset, .unset, .unset, .unset, .unset, .unset, .unset] [])) _
        refine st34 _ ?_
        show Steps p.tables e below (T34.setTop (mkF m 19 #[.val (.long q0), .second, .val (.int p1), .val (.int (1 : Int32)), .unset, .unset, .unset, .unset, .unset, .unset, .unset, .unset, .unset, .unset, .unset] [(.ref wC)])) _
        refine XS.goto X34.here hx rfl (pc0 := 19) (pc' := 25) rfl (hb hby at_19) (by decide) (by decide) ?_
        show Steps p.tables e below (T34.setTop (mkF m 25 #[.val (.long q0), .second, .val (.int p1), .val (.int (1 : Int32)), .unset, .unset, .unset, .unset, .unset, .unset, .unset, .unset, .unset, .unset, .unset] [(.ref wC)])) _
        refine XS.astore X34.here hx rfl (hb hby at_25) rfl rfl (l' := #[.val (.long q0), .second, .val (.int p1), .val (.int (1 : Int32)), .val (.ref wC), .unset, .unset, .unset, .unset, .unset, .unset, .unset, .unset, .unset, .unset]) rfl ?_
        show Steps p.tables e below (T34.setTop (mkF m 27 #[.val (.long q0), .second, .val (.int p1), .val (.int (1 : Int32)), .val (.ref wC), .unset, .unset, .unset, .unset, .unset, .unset, .unset, .unset, .unset, .unset] [])) _
        refine XS.iloadN X34.here hx rfl (hb hby at_27) rfl ?_
        show Steps p.tables e below (T34.setTop (mkF m 28 #[.val (.long q0), .second, .val (.int p1), .val (.int (1 : Int32)), .val (.ref wC), .unset, .unset, .unset, .unset, .unset, .unset, .unset, .unset, .unset, .unset] [(.int (1 : Int32))])) _
        refine XS.ifNo X34.here hx rfl (hb hby at_28) rfl ((if0 _ _).trans (feq (by decide : ¬ ((1 : Int32) = (0 : Int32)))).1) ?_
        show Steps p.tables e below (T34.setTop (mkF m 31 #[.val (.long q0), .second, .val (.int p1), .val (.int (1 : Int32)), .val (.ref wC), .unset, .unset, .unset, .unset, .unset, .unset, .unset, .unset, .unset, .unset] [])) _
        refine X34.ldc2Long hx hown (mvT hZ (hw _ (List.mem_of_getElem? (i := 20) rfl))) (g := (mkF m 31 #[.val (.long q0), .second, .val (.int p1), .val (.int (1 : Int32)), .val (.ref wC), .unset, .unset, .unset, .unset, .unset, .unset, .unset, .unset, .unset, .unset] [])) rfl (hb hby at_31) _ ?_
        show Steps p.tables e below (T34.setTop (mkF m 34 #[.val (.long q0), .second, .val (.int p1), .val (.int (1 : Int32)), .val (.ref wC), .unset, .unset, .unset, .unset, .unset, .unset, .unset, .unset, .unset, .unset] [(.long (16 : Int64))])) _
        refine XS.goto X34.here hx rfl (pc0 := 34) (pc' := 40) rfl (hb hby at_34) (by decide) (by decide) ?_
        show Steps p.tables e below (T34.setTop (mkF m 40 #[.val (.long q0), .second, .val (.int p1), .val (.int (1 : Int32)), .val (.ref wC), .unset, .unset, .unset, .unset, .unset, .unset, .unset, .unset, .unset, .unset] [(.long (16 : Int64))])) _
        refine XS.lstore X34.here hx rfl (hb hby at_40) rfl (l' := #[.val (.long q0), .second, .val (.int p1), .val (.int (1 : Int32)), .val (.ref wC), .val (.long (16 : Int64)), .second, .unset, .unset, .unset, .unset, .unset, .unset, .unset, .unset]) rfl ?_
        show Steps p.tables e below (T34.setTop (mkF m 42 #[.val (.long q0), .second, .val (.int p1), .val (.int (1 : Int32)), .val (.ref wC), .val (.long (16 : Int64)), .second, .unset, .unset, .unset, .unset, .unset, .unset, .unset, .unset] [])) _
        refine XS.iloadN X34.here hx rfl (hb hby at_42) rfl ?_
        show Steps p.tables e below (T34.setTop (mkF m 43 #[.val (.long q0), .second, .val (.int p1), .val (.int (1 : Int32)), .val (.ref wC), .val (.long (16 : Int64)), .second, .unset, .unset, .unset, .unset, .unset, .unset, .unset, .unset] [(.int p1)])) _
        refine XS.iconst X34.here hx rfl (hb hby at_43) ?_
        show Steps p.tables e below (T34.setTop (mkF m 44 #[.val (.long q0), .second, .val (.int p1), .val (.int (1 : Int32)), .val (.ref wC), .val (.long (16 : Int64)), .second, .unset, .unset, .unset, .unset, .unset, .unset, .unset, .unset] [(.int (2 : Int32)), (.int p1)])) _
        refine XS.iand X34.here hx rfl (hb hby at_44) rfl ?_
        exact kt)
    by_cases hc45_35 : (p1 &&& (2 : Int32)) = (0 : Int32)
    · have pre38 : ∀ t, Steps p.tables e below (T34.setTop (mkF m 69 #[.val (.long q0), .second, .val (.int p1), .val (.int (1 : Int32)), .val (.ref wC), .val (.long (16 : Int64)), .second, .val (.long (q0 &&& (9223372036854775807 : Int64))), .second, .unset, .unset, .unset, .unset, .unset, .unset] [(.int (lcmpW (q0 &&& (9223372036854775807 : Int64)) (0 : Int64)))])) t → Steps p.tables e below (s₁.setTop (entryFrame m #[(.long q0), (.int p1)] maxLocals)) t := fun t kt => pre36 t (by
          show Steps p.tables e below (T34.setTop (mkF m 45 #[.val (.long q0), .second, .val (.int p1), .val (.int (1 : Int32)), .val (.ref wC), .val (.long (16 : Int64)), .second, .unset, .unset, .unset, .unset, .unset, .unset, .unset, .unset] [(.int (p1 &&& (2 : Int32)))])) _
          refine XS.ifYes X34.here hx rfl (pc0 := 45) (pc' := 58) rfl (hb hby at_45) rfl ((if0 _ _).trans (teq hc45_35).1) (by decide) (by decide) ?_
          show Steps p.tables e below (T34.setTop (mkF m 58 #[.val (.long q0), .second, .val (.int p1), .val (.int (1 : Int32)), .val (.ref wC), .val (.long (16 : Int64)), .second, .unset, .unset, .unset, .unset, .unset, .unset, .unset, .unset] [])) _
          refine XS.lloadN X34.here hx rfl (hb hby at_58) rfl ?_
          show Steps p.tables e below (T34.setTop (mkF m 59 #[.val (.long q0), .second, .val (.int p1), .val (.int (1 : Int32)), .val (.ref wC), .val (.long (16 : Int64)), .second, .unset, .unset, .unset, .unset, .unset, .unset, .unset, .unset] [(.long q0)])) _
          refine X34.ldc2Long hx hown (mvT hZ (hw _ (List.mem_of_getElem? (i := 17) rfl))) (g := (mkF m 59 #[.val (.long q0), .second, .val (.int p1), .val (.int (1 : Int32)), .val (.ref wC), .val (.long (16 : Int64)), .second, .unset, .unset, .unset, .unset, .unset, .unset, .unset, .unset] [(.long q0)])) rfl (hb hby at_59) _ ?_
          show Steps p.tables e below (T34.setTop (mkF m 62 #[.val (.long q0), .second, .val (.int p1), .val (.int (1 : Int32)), .val (.ref wC), .val (.long (16 : Int64)), .second, .unset, .unset, .unset, .unset, .unset, .unset, .unset, .unset] [(.long (9223372036854775807 : Int64)), (.long q0)])) _
          refine XS.land X34.here hx rfl (hb hby at_62) rfl ?_
          show Steps p.tables e below (T34.setTop (mkF m 63 #[.val (.long q0), .second, .val (.int p1), .val (.int (1 : Int32)), .val (.ref wC), .val (.long (16 : Int64)), .second, .unset, .unset, .unset, .unset, .unset, .unset, .unset, .unset] [(.long (q0 &&& (9223372036854775807 : Int64)))])) _
          refine XS.lstore X34.here hx rfl (hb hby at_63) rfl (l' := #[.val (.long q0), .second, .val (.int p1), .val (.int (1 : Int32)), .val (.ref wC), .val (.long (16 : Int64)), .second, .val (.long (q0 &&& (9223372036854775807 : Int64))), .second, .unset, .unset, .unset, .unset, .unset, .unset]) rfl ?_
          show Steps p.tables e below (T34.setTop (mkF m 65 #[.val (.long q0), .second, .val (.int p1), .val (.int (1 : Int32)), .val (.ref wC), .val (.long (16 : Int64)), .second, .val (.long (q0 &&& (9223372036854775807 : Int64))), .second, .unset, .unset, .unset, .unset, .unset, .unset] [])) _
          refine XS.lload X34.here hx rfl (hb hby at_65) rfl ?_
          show Steps p.tables e below (T34.setTop (mkF m 67 #[.val (.long q0), .second, .val (.int p1), .val (.int (1 : Int32)), .val (.ref wC), .val (.long (16 : Int64)), .second, .val (.long (q0 &&& (9223372036854775807 : Int64))), .second, .unset, .unset, .unset, .unset, .unset, .unset] [(.long (q0 &&& (9223372036854775807 : Int64)))])) _
          refine XS.lconst X34.here hx rfl (hb hby at_67) ?_
          show Steps p.tables e below (T34.setTop (mkF m 68 #[.val (.long q0), .second, .val (.int p1), .val (.int (1 : Int32)), .val (.ref wC), .val (.long (16 : Int64)), .second, .val (.long (q0 &&& (9223372036854775807 : Int64))), .second, .unset, .unset, .unset, .unset, .unset, .unset] [(.long (0 : Int64)), (.long (q0 &&& (9223372036854775807 : Int64)))])) _
          refine XS.lcmp X34.here hx rfl (hb hby at_68) rfl ?_
          exact kt)
      by_cases hc69_37 : (q0 &&& (9223372036854775807 : Int64)) = (0 : Int64)
      · have pre40 : ∀ t, Steps p.tables e below (T34.setTop (mkF m 93 #[.val (.long q0), .second, .val (.int p1), .val (.int (1 : Int32)), .val (.ref wC), .val (.long (16 : Int64)), .second, .val (.long (1 : Int64)), .second, .val (.long ((1 : Int64) / (16 : Int64))), .second, .val (.long ((1 : Int64) - ((1 : Int64) / (16 : Int64)) * (16 : Int64))), .second, .unset, .unset] [(.int (lcmpW ((1 : Int64) - ((1 : Int64) / (16 : Int64)) * (16 : Int64)) (0 : Int64)))])) t → Steps p.tables e below (s₁.setTop (entryFrame m #[(.long q0), (.int p1)] maxLocals)) t := fun t kt => pre38 t (by
            show Steps p.tables e below (T34.setTop (mkF m 69 #[.val (.long q0), .second, .val (.int p1), .val (.int (1 : Int32)), .val (.ref wC), .val (.long (16 : Int64)), .second, .val (.long (q0 &&& (9223372036854775807 : Int64))), .second, .unset, .unset, .unset, .unset, .unset, .unset] [(.int (lcmpW (q0 &&& (9223372036854775807 : Int64)) (0 : Int64)))])) _
            refine XS.ifNo X34.here hx rfl (hb hby at_69) rfl ((if0 _ _).trans (teq ((lw_eq _ _).mpr hc69_37)).2) ?_
            show Steps p.tables e below (T34.setTop (mkF m 72 #[.val (.long q0), .second, .val (.int p1), .val (.int (1 : Int32)), .val (.ref wC), .val (.long (16 : Int64)), .second, .val (.long (q0 &&& (9223372036854775807 : Int64))), .second, .unset, .unset, .unset, .unset, .unset, .unset] [])) _
            refine XS.lconst X34.here hx rfl (hb hby at_72) ?_
            show Steps p.tables e below (T34.setTop (mkF m 73 #[.val (.long q0), .second, .val (.int p1), .val (.int (1 : Int32)), .val (.ref wC), .val (.long (16 : Int64)), .second, .val (.long (q0 &&& (9223372036854775807 : Int64))), .second, .unset, .unset, .unset, .unset, .unset, .unset] [(.long (1 : Int64))])) _
            refine XS.lstore X34.here hx rfl (hb hby at_73) rfl (l' := #[.val (.long q0), .second, .val (.int p1), .val (.int (1 : Int32)), .val (.ref wC), .val (.long (16 : Int64)), .second, .val (.long (1 : Int64)), .second, .unset, .unset, .unset, .unset, .unset, .unset]) rfl ?_
            show Steps p.tables e below (T34.setTop (mkF m 75 #[.val (.long q0), .second, .val (.int p1), .val (.int (1 : Int32)), .val (.ref wC), .val (.long (16 : Int64)), .second, .val (.long (1 : Int64)), .second, .unset, .unset, .unset, .unset, .unset, .unset] [])) _
            refine XS.lload X34.here hx rfl (hb hby at_75) rfl ?_
            show Steps p.tables e below (T34.setTop (mkF m 77 #[.val (.long q0), .second, .val (.int p1), .val (.int (1 : Int32)), .val (.ref wC), .val (.long (16 : Int64)), .second, .val (.long (1 : Int64)), .second, .unset, .unset, .unset, .unset, .unset, .unset] [(.long (1 : Int64))])) _
            refine XS.lload X34.here hx rfl (hb hby at_77) rfl ?_
            show Steps p.tables e below (T34.setTop (mkF m 79 #[.val (.long q0), .second, .val (.int p1), .val (.int (1 : Int32)), .val (.ref wC), .val (.long (16 : Int64)), .second, .val (.long (1 : Int64)), .second, .unset, .unset, .unset, .unset, .unset, .unset] [(.long (16 : Int64)), (.long (1 : Int64))])) _
            refine XS.ldiv X34.here hx rfl (hb hby at_79) rfl (by decide : ¬ ((16 : Int64) = (0 : Int64))) ?_
            show Steps p.tables e below (T34.setTop (mkF m 80 #[.val (.long q0), .second, .val (.int p1), .val (.int (1 : Int32)), .val (.ref wC), .val (.long (16 : Int64)), .second, .val (.long (1 : Int64)), .second, .unset, .unset, .unset, .unset, .unset, .unset] [(.long ((1 : Int64) / (16 : Int64)))])) _
            refine XS.lstore X34.here hx rfl (hb hby at_80) rfl (l' := #[.val (.long q0), .second, .val (.int p1), .val (.int (1 : Int32)), .val (.ref wC), .val (.long (16 : Int64)), .second, .val (.long (1 : Int64)), .second, .val (.long ((1 : Int64) / (16 : Int64))), .second, .unset, .unset, .unset, .unset]) rfl ?_
            show Steps p.tables e below (T34.setTop (mkF m 82 #[.val (.long q0), .second, .val (.int p1), .val (.int (1 : Int32)), .val (.ref wC), .val (.long (16 : Int64)), .second, .val (.long (1 : Int64)), .second, .val (.long ((1 : Int64) / (16 : Int64))), .second, .unset, .unset, .unset, .unset] [])) _
            refine XS.lload X34.here hx rfl (hb hby at_82) rfl ?_
            show Steps p.tables e below (T34.setTop (mkF m 84 #[.val (.long q0), .second, .val (.int p1), .val (.int (1 : Int32)), .val (.ref wC), .val (.long (16 : Int64)), .second, .val (.long (1 : Int64)), .second, .val (.long ((1 : Int64) / (16 : Int64))), .second, .unset, .unset, .unset, .unset] [(.long (1 : Int64))])) _
            refine XS.lload X34.here hx rfl (hb hby at_84) rfl ?_
            show Steps p.tables e below (T34.setTop (mkF m 86 #[.val (.long q0), .second, .val (.int p1), .val (.int (1 : Int32)), .val (.ref wC), .val (.long (16 : Int64)), .second, .val (.long (1 : Int64)), .second, .val (.long ((1 : Int64) / (16 : Int64))), .second, .unset, .unset, .unset, .unset] [(.long (16 : Int64)), (.long (1 : Int64))])) _
            refine XS.lrem X34.here hx rfl (hb hby at_86) rfl (by decide : ¬ ((16 : Int64) = (0 : Int64))) ?_
            show Steps p.tables e below (T34.setTop (mkF m 87 #[.val (.long q0), .second, .val (.int p1), .val (.int (1 : Int32)), .val (.ref wC), .val (.long (16 : Int64)), .second, .val (.long (1 : Int64)), .second, .val (.long ((1 : Int64) / (16 : Int64))), .second, .unset, .unset, .unset, .unset] [(.long ((1 : Int64) - ((1 : Int64) / (16 : Int64)) * (16 : Int64)))])) _
            refine XS.lstore X34.here hx rfl (hb hby at_87) rfl (l' := #[.val (.long q0), .second, .val (.int p1), .val (.int (1 : Int32)), .val (.ref wC), .val (.long (16 : Int64)), .second, .val (.long (1 : Int64)), .second, .val (.long ((1 : Int64) / (16 : Int64))), .second, .val (.long ((1 : Int64) - ((1 : Int64) / (16 : Int64)) * (16 : Int64))), .second, .unset, .unset]) rfl ?_
            show Steps p.tables e below (T34.setTop (mkF m 89 #[.val (.long q0), .second, .val (.int p1), .val (.int (1 : Int32)), .val (.ref wC), .val (.long (16 : Int64)), .second, .val (.long (1 : Int64)), .second, .val (.long ((1 : Int64) / (16 : Int64))), .second, .val (.long ((1 : Int64) - ((1 : Int64) / (16 : Int64)) * (16 : Int64))), .second, .unset, .unset] [])) _
            refine XS.lload X34.here hx rfl (hb hby at_89) rfl ?_
            show Steps p.tables e below (T34.setTop (mkF m 91 #[.val (.long q0), .second, .val (.int p1), .val (.int (1 : Int32)), .val (.ref wC), .val (.long (16 : Int64)), .second, .val (.long (1 : Int64)), .second, .val (.long ((1 : Int64) / (16 : Int64))), .second, .val (.long ((1 : Int64) - ((1 : Int64) / (16 : Int64)) * (16 : Int64))), .second, .unset, .unset] [(.long ((1 : Int64) - ((1 : Int64) / (16 : Int64)) * (16 : Int64)))])) _
            refine XS.lconst X34.here hx rfl (hb hby at_91) ?_
            show Steps p.tables e below (T34.setTop (mkF m 92 #[.val (.long q0), .second, .val (.int p1), .val (.int (1 : Int32)), .val (.ref wC), .val (.long (16 : Int64)), .second, .val (.long (1 : Int64)), .second, .val (.long ((1 : Int64) / (16 : Int64))), .second, .val (.long ((1 : Int64) - ((1 : Int64) / (16 : Int64)) * (16 : Int64))), .second, .unset, .unset] [(.long (0 : Int64)), (.long ((1 : Int64) - ((1 : Int64) / (16 : Int64)) * (16 : Int64)))])) _
            refine XS.lcmp X34.here hx rfl (hb hby at_92) rfl ?_
            exact kt)
        by_cases hc93_39 : ((1 : Int64) - ((1 : Int64) / (16 : Int64)) * (16 : Int64)) = (0 : Int64)
        · obtain ⟨cq42, kq42, q42a, q42b, q42c⟩ := isOf hZ e34 P_E_wC
          obtain ⟨_, _, ⟨T41, L41, k41, n41⟩, -, X41, ⟨Lc41, hQ41, l41, y41, z41⟩, st41⟩ := X34.virtualBack hx (y := (⟨"com/example/keys_to_bits/keystobits/FilterKind", "words", "(J)J"⟩ : MethodName)) (z := (⟨"com/example/keys_to_bits/keystobits/FilterKind", "words", "(J)J"⟩ : MethodName)) hown (mvT hZ (hw _ (List.mem_of_getElem? (i := 5) rfl))) (mvT hZ (hw _ (List.mem_of_getElem? (i := 6) rfl))) (notFace_of_selects (args := #[]) (mvT hZ (hw _ (List.mem_of_getElem? (i := 21) rfl)))) (mvT hZ (hw _ (List.mem_of_getElem? (i := 21) rfl))) (mvT hZ (hw _ (List.mem_of_getElem? (i := 7) rfl))) (by decide) (backOf (W := 0) (rmW2 l Z a0 hw [] wC (1 : Int64) h0 n0 Z0 P_E_wC P_F_wC_FilterKind_bitsPerCell) hZ (hw _ (List.mem_of_getElem? (i := 9) rfl)) (hw _ (List.mem_of_getElem? (i := 1) rfl)) (by decide) (by decide)) q42a q42c (g := (mkF m 111 #[.val (.long q0), .second, .val (.int p1), .val (.int (1 : Int32)), .val (.ref wC), .val (.long (16 : Int64)), .second, .val (.long (1 : Int64)), .second, .val (.long ((1 : Int64) / (16 : Int64))), .second, .val (.long ((1 : Int64) - ((1 : Int64) / (16 : Int64)) * (16 : Int64))), .second, .val (.long ((1 : Int64) / (16 : Int64))), .second] [(.long (1 : Int64)), (.ref wC)])) rfl (by rw [hml]; rfl) (Steps.refl _) (argsL := [(.long (1 : Int64))]) (rest := []) (lenOf pd__J_J rfl) rfl (by show 2 * 0 + _ ≤ _; exact Nat.le_of_eq rfl) (hb hby at_111) (fun _ _ => ⟨rfl, e34, (by decide : 0 + 0 ≤ _), (by decide : 0 + 0 ≤ _)⟩)
          dsimp only [Pt.U, Pt.locs, Pt.cells, Pt.slots] at X41 l41 y41 z41 st41 hQ41
          subst l41 y41 z41
          obtain ⟨rfl, N41q, e41⟩ := hQ41
          have N41 := Fr.app N0 N41q
          obtain ⟨fs, hr, hrun, hended, hW, hsame⟩ := X41.leave (v := some (.int (1 : Int32))) (fun h => by rw [Bd.returns] at h; cases h)
          refine ⟨_, _, pre40 _ ?_, hrun, hended, _, _, rfl, ?_, ⟨_, rfl⟩, hW, hsame.mono (by decide) (by decide)⟩
          · show Steps p.tables e below (T34.setTop (mkF m 93 #[.val (.long q0), .second, .val (.int p1), .val (.int (1 : Int32)), .val (.ref wC), .val (.long (16 : Int64)), .second, .val (.long (1 : Int64)), .second, .val (.long ((1 : Int64) / (16 : Int64))), .second, .val (.long ((1 : Int64) - ((1 : Int64) / (16 : Int64)) * (16 : Int64))), .second, .unset, .unset] [(.int (lcmpW ((1 : Int64) - ((1 : Int64) / (16 : Int64)) * (16 : Int64)) (0 : Int64)))])) _
            refine XS.ifNo X34.here hx rfl (hb hby at_93) rfl ((if0 _ _).trans (teq ((lw_eq _ _).mpr hc93_39)).2) ?_
            show Steps p.tables e below (T34.setTop (mkF m 96 #[.val (.long q0), .second, .val (.int p1), .val (.int (1 : Int32)), .val (.ref wC), .val (.long (16 : Int64)), .second, .val (.long (1 : Int64)), .second, .val (.long ((1 : Int64) / (16 : Int64))), .second, .val (.long ((1 : Int64) - ((1 : Int64) / (16 : Int64)) * (16 : Int64))), .second, .unset, .unset] [])) _
            refine XS.lload X34.here hx rfl (hb hby at_96) rfl ?_
            show Steps p.tables e below (T34.setTop (mkF m 98 #[.val (.long q0), .second, .val (.int p1), .val (.int (1 : Int32)), .val (.ref wC), .val (.long (16 : Int64)), .second, .val (.long (1 : Int64)), .second, .val (.long ((1 : Int64) / (16 : Int64))), .second, .val (.long ((1 : Int64) - ((1 : Int64) / (16 : Int64)) * (16 : Int64))), .second, .unset, .unset] [(.long ((1 : Int64) / (16 : Int64)))])) _
            refine XS.goto X34.here hx rfl (pc0 := 98) (pc' := 105) rfl (hb hby at_98) (by decide) (by decide) ?_
            show Steps p.tables e below (T34.setTop (mkF m 105 #[.val (.long q0), .second, .val (.int p1), .val (.int (1 : Int32)), .val (.ref wC), .val (.long (16 : Int64)), .second, .val (.long (1 : Int64)), .second, .val (.long ((1 : Int64) / (16 : Int64))), .second, .val (.long ((1 : Int64) - ((1 : Int64) / (16 : Int64)) * (16 : Int64))), .second, .unset, .unset] [(.long ((1 : Int64) / (16 : Int64)))])) _
            refine XS.lstore X34.here hx rfl (hb hby at_105) rfl (l' := #[.val (.long q0), .second, .val (.int p1), .val (.int (1 : Int32)), .val (.ref wC), .val (.long (16 : Int64)), .second, .val (.long (1 : Int64)), .second, .val (.long ((1 : Int64) / (16 : Int64))), .second, .val (.long ((1 : Int64) - ((1 : Int64) / (16 : Int64)) * (16 : Int64))), .second, .val (.long ((1 : Int64) / (16 : Int64))), .second]) rfl ?_
            show Steps p.tables e below (T34.setTop (mkF m 107 #[.val (.long q0), .second, .val (.int p1), .val (.int (1 : Int32)), .val (.ref wC), .val (.long (16 : Int64)), .second, .val (.long (1 : Int64)), .second, .val (.long ((1 : Int64) / (16 : Int64))), .second, .val (.long ((1 : Int64) - ((1 : Int64) / (16 : Int64)) * (16 : Int64))), .second, .val (.long ((1 : Int64) / (16 : Int64))), .second] [])) _
            refine XS.aload X34.here hx rfl (hb hby at_107) rfl rfl ?_
            show Steps p.tables e below (T34.setTop (mkF m 109 #[.val (.long q0), .second, .val (.int p1), .val (.int (1 : Int32)), .val (.ref wC), .val (.long (16 : Int64)), .second, .val (.long (1 : Int64)), .second, .val (.long ((1 : Int64) / (16 : Int64))), .second, .val (.long ((1 : Int64) - ((1 : Int64) / (16 : Int64)) * (16 : Int64))), .second, .val (.long ((1 : Int64) / (16 : Int64))), .second] [(.ref wC)])) _
            refine XS.lload X34.here hx rfl (hb hby at_109) rfl ?_
            show Steps p.tables e below (T34.setTop (mkF m 111 #[.val (.long q0), .second, .val (.int p1), .val (.int (1 : Int32)), .val (.ref wC), .val (.long (16 : Int64)), .second, .val (.long (1 : Int64)), .second, .val (.long ((1 : Int64) / (16 : Int64))), .second, .val (.long ((1 : Int64) - ((1 : Int64) / (16 : Int64)) * (16 : Int64))), .second, .val (.long ((1 : Int64) / (16 : Int64))), .second] [(.long (1 : Int64)), (.ref wC)])) _
            refine st41.trans ?_
            show Steps p.tables e below (T41.setTop (mkF m 114 #[.val (.long q0), .second, .val (.int p1), .val (.int (1 : Int32)), .val (.ref wC), .val (.long (16 : Int64)), .second, .val (.long (1 : Int64)), .second, .val (.long ((1 : Int64) / (16 : Int64))), .second, .val (.long ((1 : Int64) - ((1 : Int64) / (16 : Int64)) * (16 : Int64))), .second, .val (.long ((1 : Int64) / (16 : Int64))), .second] [(.long ((((1 : Int64) - (1 : Int64)) / ((16 : Int32).toInt64)) + (1 : Int64)))])) _
            refine XS.lload X41.here hx rfl (hb hby at_114) rfl ?_
            show Steps p.tables e below (T41.setTop (mkF m 116 #[.val (.long q0), .second, .val (.int p1), .val (.int (1 : Int32)), .val (.ref wC), .val (.long (16 : Int64)), .second, .val (.long (1 : Int64)), .second, .val (.long ((1 : Int64) / (16 : Int64))), .second, .val (.long ((1 : Int64) - ((1 : Int64) / (16 : Int64)) * (16 : Int64))), .second, .val (.long ((1 : Int64) / (16 : Int64))), .second] [(.long ((1 : Int64) / (16 : Int64))), (.long ((((1 : Int64) - (1 : Int64)) / ((16 : Int32).toInt64)) + (1 : Int64)))])) _
            refine XS.lcmp X41.here hx rfl (hb hby at_116) rfl ?_
            show Steps p.tables e below (T41.setTop (mkF m 117 #[.val (.long q0), .second, .val (.int p1), .val (.int (1 : Int32)), .val (.ref wC), .val (.long (16 : Int64)), .second, .val (.long (1 : Int64)), .second, .val (.long ((1 : Int64) / (16 : Int64))), .second, .val (.long ((1 : Int64) - ((1 : Int64) / (16 : Int64)) * (16 : Int64))), .second, .val (.long ((1 : Int64) / (16 : Int64))), .second] [(.int (lcmpW ((((1 : Int64) - (1 : Int64)) / ((16 : Int32).toInt64)) + (1 : Int64)) ((1 : Int64) / (16 : Int64))))])) _
            refine XS.ifNo X41.here hx rfl (hb hby at_117) rfl ((if0 _ _).trans (teq ((lw_eq _ _).mpr (own_w0_16 (by decide : 0 < (1 : Int64).toInt) hc93_39))).2) ?_
            show Steps p.tables e below (T41.setTop (mkF m 120 #[.val (.long q0), .second, .val (.int p1), .val (.int (1 : Int32)), .val (.ref wC), .val (.long (16 : Int64)), .second, .val (.long (1 : Int64)), .second, .val (.long ((1 : Int64) / (16 : Int64))), .second, .val (.long ((1 : Int64) - ((1 : Int64) / (16 : Int64)) * (16 : Int64))), .second, .val (.long ((1 : Int64) / (16 : Int64))), .second] [])) _
            refine XS.iconst X41.here hx rfl (hb hby at_120) ?_
            show Steps p.tables e below (T41.setTop (mkF m 121 #[.val (.long q0), .second, .val (.int p1), .val (.int (1 : Int32)), .val (.ref wC), .val (.long (16 : Int64)), .second, .val (.long (1 : Int64)), .second, .val (.long ((1 : Int64) / (16 : Int64))), .second, .val (.long ((1 : Int64) - ((1 : Int64) / (16 : Int64)) * (16 : Int64))), .second, .val (.long ((1 : Int64) / (16 : Int64))), .second] [(.int (1 : Int32))])) _
            refine XS.goto X41.here hx rfl (pc0 := 121) (pc' := 125) rfl (hb hby at_121) (by decide) (by decide) ?_
            show Steps p.tables e below (T41.setTop (mkF m 125 #[.val (.long q0), .second, .val (.int p1), .val (.int (1 : Int32)), .val (.ref wC), .val (.long (16 : Int64)), .second, .val (.long (1 : Int64)), .second, .val (.long ((1 : Int64) / (16 : Int64))), .second, .val (.long ((1 : Int64) - ((1 : Int64) / (16 : Int64)) * (16 : Int64))), .second, .val (.long ((1 : Int64) / (16 : Int64))), .second] [(.int (1 : Int32))])) _
            exact retN X41 hx (t := .boolean) Bd.returns (by simp) (hb hby at_125) hr
          · show own_Q0 n0 _ T41.heap _
            rw [e41]
            exact ⟨rfl, N41⟩
        · obtain ⟨cq44, kq44, q44a, q44b, q44c⟩ := isOf hZ e34 P_E_wC
          obtain ⟨_, _, ⟨T43, L43, k43, n43⟩, -, X43, ⟨Lc43, hQ43, l43, y43, z43⟩, st43⟩ := X34.virtualBack hx (y := (⟨"com/example/keys_to_bits/keystobits/FilterKind", "words", "(J)J"⟩ : MethodName)) (z := (⟨"com/example/keys_to_bits/keystobits/FilterKind", "words", "(J)J"⟩ : MethodName)) hown (mvT hZ (hw _ (List.mem_of_getElem? (i := 5) rfl))) (mvT hZ (hw _ (List.mem_of_getElem? (i := 6) rfl))) (notFace_of_selects (args := #[]) (mvT hZ (hw _ (List.mem_of_getElem? (i := 21) rfl)))) (mvT hZ (hw _ (List.mem_of_getElem? (i := 21) rfl))) (mvT hZ (hw _ (List.mem_of_getElem? (i := 7) rfl))) (by decide) (backOf (W := 0) (rmW2 l Z a0 hw [] wC (1 : Int64) h0 n0 Z0 P_E_wC P_F_wC_FilterKind_bitsPerCell) hZ (hw _ (List.mem_of_getElem? (i := 9) rfl)) (hw _ (List.mem_of_getElem? (i := 1) rfl)) (by decide) (by decide)) q44a q44c (g := (mkF m 111 #[.val (.long q0), .second, .val (.int p1), .val (.int (1 : Int32)), .val (.ref wC), .val (.long (16 : Int64)), .second, .val (.long (1 : Int64)), .second, .val (.long ((1 : Int64) / (16 : Int64))), .second, .val (.long ((1 : Int64) - ((1 : Int64) / (16 : Int64)) * (16 : Int64))), .second, .val (.long (((1 : Int64) / (16 : Int64)) + (1 : Int64))), .second] [(.long (1 : Int64)), (.ref wC)])) rfl (by rw [hml]; rfl) (Steps.refl _) (argsL := [(.long (1 : Int64))]) (rest := []) (lenOf pd__J_J rfl) rfl (by show 2 * 0 + _ ≤ _; exact Nat.le_of_eq rfl) (hb hby at_111) (fun _ _ => ⟨rfl, e34, (by decide : 0 + 0 ≤ _), (by decide : 0 + 0 ≤ _)⟩)
          dsimp only [Pt.U, Pt.locs, Pt.cells, Pt.slots] at X43 l43 y43 z43 st43 hQ43
          subst l43 y43 z43
          obtain ⟨rfl, N43q, e43⟩ := hQ43
          have N43 := Fr.app N0 N43q
          obtain ⟨fs, hr, hrun, hended, hW, hsame⟩ := X43.leave (v := some (.int (1 : Int32))) (fun h => by rw [Bd.returns] at h; cases h)
          refine ⟨_, _, pre40 _ ?_, hrun, hended, _, _, rfl, ?_, ⟨_, rfl⟩, hW, hsame.mono (by decide) (by decide)⟩
          · show Steps p.tables e below (T34.setTop (mkF m 93 #[.val (.long q0), .second, .val (.int p1), .val (.int (1 : Int32)), .val (.ref wC), .val (.long (16 : Int64)), .second, .val (.long (1 : Int64)), .second, .val (.long ((1 : Int64) / (16 : Int64))), .second, .val (.long ((1 : Int64) - ((1 : Int64) / (16 : Int64)) * (16 : Int64))), .second, .unset, .unset] [(.int (lcmpW ((1 : Int64) - ((1 : Int64) / (16 : Int64)) * (16 : Int64)) (0 : Int64)))])) _
            refine XS.ifYes X34.here hx rfl (pc0 := 93) (pc' := 101) rfl (hb hby at_93) rfl ((if0 _ _).trans (feq (fun qq => hc93_39 ((lw_eq _ _).mp qq))).2) (by decide) (by decide) ?_
            show Steps p.tables e below (T34.setTop (mkF m 101 #[.val (.long q0), .second, .val (.int p1), .val (.int (1 : Int32)), .val (.ref wC), .val (.long (16 : Int64)), .second, .val (.long (1 : Int64)), .second, .val (.long ((1 : Int64) / (16 : Int64))), .second, .val (.long ((1 : Int64) - ((1 : Int64) / (16 : Int64)) * (16 : Int64))), .second, .unset, .unset] [])) _
            refine XS.lload X34.here hx rfl (hb hby at_101) rfl ?_
            show Steps p.tables e below (T34.setTop (mkF m 103 #[.val (.long q0), .second, .val (.int p1), .val (.int (1 : Int32)), .val (.ref wC), .val (.long (16 : Int64)), .second, .val (.long (1 : Int64)), .second, .val (.long ((1 : Int64) / (16 : Int64))), .second, .val (.long ((1 : Int64) - ((1 : Int64) / (16 : Int64)) * (16 : Int64))), .second, .unset, .unset] [(.long ((1 : Int64) / (16 : Int64)))])) _
            refine XS.lconst X34.here hx rfl (hb hby at_103) ?_
            show Steps p.tables e below (T34.setTop (mkF m 104 #[.val (.long q0), .second, .val (.int p1), .val (.int (1 : Int32)), .val (.ref wC), .val (.long (16 : Int64)), .second, .val (.long (1 : Int64)), .second, .val (.long ((1 : Int64) / (16 : Int64))), .second, .val (.long ((1 : Int64) - ((1 : Int64) / (16 : Int64)) * (16 : Int64))), .second, .unset, .unset] [(.long (1 : Int64)), (.long ((1 : Int64) / (16 : Int64)))])) _
            refine XS.ladd X34.here hx rfl (hb hby at_104) rfl ?_
            show Steps p.tables e below (T34.setTop (mkF m 105 #[.val (.long q0), .second, .val (.int p1), .val (.int (1 : Int32)), .val (.ref wC), .val (.long (16 : Int64)), .second, .val (.long (1 : Int64)), .second, .val (.long ((1 : Int64) / (16 : Int64))), .second, .val (.long ((1 : Int64) - ((1 : Int64) / (16 : Int64)) * (16 : Int64))), .second, .unset, .unset] [(.long (((1 : Int64) / (16 : Int64)) + (1 : Int64)))])) _
            refine XS.lstore X34.here hx rfl (hb hby at_105) rfl (l' := #[.val (.long q0), .second, .val (.int p1), .val (.int (1 : Int32)), .val (.ref wC), .val (.long (16 : Int64)), .second, .val (.long (1 : Int64)), .second, .val (.long ((1 : Int64) / (16 : Int64))), .second, .val (.long ((1 : Int64) - ((1 : Int64) / (16 : Int64)) * (16 : Int64))), .second, .val (.long (((1 : Int64) / (16 : Int64)) + (1 : Int64))), .second]) rfl ?_
            show Steps p.tables e below (T34.setTop (mkF m 107 #[.val (.long q0), .second, .val (.int p1), .val (.int (1 : Int32)), .val (.ref wC), .val (.long (16 : Int64)), .second, .val (.long (1 : Int64)), .second, .val (.long ((1 : Int64) / (16 : Int64))), .second, .val (.long ((1 : Int64) - ((1 : Int64) / (16 : Int64)) * (16 : Int64))), .second, .val (.long (((1 : Int64) / (16 : Int64)) + (1 : Int64))), .second] [])) _
            refine XS.aload X34.here hx rfl (hb hby at_107) rfl rfl ?_
            show Steps p.tables e below (T34.setTop (mkF m 109 #[.val (.long q0), .second, .val (.int p1), .val (.int (1 : Int32)), .val (.ref wC), .val (.long (16 : Int64)), .second, .val (.long (1 : Int64)), .second, .val (.long ((1 : Int64) / (16 : Int64))), .second, .val (.long ((1 : Int64) - ((1 : Int64) / (16 : Int64)) * (16 : Int64))), .second, .val (.long (((1 : Int64) / (16 : Int64)) + (1 : Int64))), .second] [(.ref wC)])) _
            refine XS.lload X34.here hx rfl (hb hby at_109) rfl ?_
            show Steps p.tables e below (T34.setTop (mkF m 111 #[.val (.long q0), .second, .val (.int p1), .val (.int (1 : Int32)), .val (.ref wC), .val (.long (16 : Int64)), .second, .val (.long (1 : Int64)), .second, .val (.long ((1 : Int64) / (16 : Int64))), .second, .val (.long ((1 : Int64) - ((1 : Int64) / (16 : Int64)) * (16 : Int64))), .second, .val (.long (((1 : Int64) / (16 : Int64)) + (1 : Int64))), .second] [(.long (1 : Int64)), (.ref wC)])) _
            refine st43.trans ?_
            show Steps p.tables e below (T43.setTop (mkF m 114 #[.val (.long q0), .second, .val (.int p1), .val (.int (1 : Int32)), .val (.ref wC), .val (.long (16 : Int64)), .second, .val (.long (1 : Int64)), .second, .val (.long ((1 : Int64) / (16 : Int64))), .second, .val (.long ((1 : Int64) - ((1 : Int64) / (16 : Int64)) * (16 : Int64))), .second, .val (.long (((1 : Int64) / (16 : Int64)) + (1 : Int64))), .second] [(.long ((((1 : Int64) - (1 : Int64)) / ((16 : Int32).toInt64)) + (1 : Int64)))])) _
            refine XS.lload X43.here hx rfl (hb hby at_114) rfl ?_
            show Steps p.tables e below (T43.setTop (mkF m 116 #[.val (.long q0), .second, .val (.int p1), .val (.int (1 : Int32)), .val (.ref wC), .val (.long (16 : Int64)), .second, .val (.long (1 : Int64)), .second, .val (.long ((1 : Int64) / (16 : Int64))), .second, .val (.long ((1 : Int64) - ((1 : Int64) / (16 : Int64)) * (16 : Int64))), .second, .val (.long (((1 : Int64) / (16 : Int64)) + (1 : Int64))), .second] [(.long (((1 : Int64) / (16 : Int64)) + (1 : Int64))), (.long ((((1 : Int64) - (1 : Int64)) / ((16 : Int32).toInt64)) + (1 : Int64)))])) _
            refine XS.lcmp X43.here hx rfl (hb hby at_116) rfl ?_
            show Steps p.tables e below (T43.setTop (mkF m 117 #[.val (.long q0), .second, .val (.int p1), .val (.int (1 : Int32)), .val (.ref wC), .val (.long (16 : Int64)), .second, .val (.long (1 : Int64)), .second, .val (.long ((1 : Int64) / (16 : Int64))), .second, .val (.long ((1 : Int64) - ((1 : Int64) / (16 : Int64)) * (16 : Int64))), .second, .val (.long (((1 : Int64) / (16 : Int64)) + (1 : Int64))), .second] [(.int (lcmpW ((((1 : Int64) - (1 : Int64)) / ((16 : Int32).toInt64)) + (1 : Int64)) (((1 : Int64) / (16 : Int64)) + (1 : Int64))))])) _
            refine XS.ifNo X43.here hx rfl (hb hby at_117) rfl ((if0 _ _).trans (teq ((lw_eq _ _).mpr (own_w1_16 (by decide : 0 < (1 : Int64).toInt) hc93_39))).2) ?_
            show Steps p.tables e below (T43.setTop (mkF m 120 #[.val (.long q0), .second, .val (.int p1), .val (.int (1 : Int32)), .val (.ref wC), .val (.long (16 : Int64)), .second, .val (.long (1 : Int64)), .second, .val (.long ((1 : Int64) / (16 : Int64))), .second, .val (.long ((1 : Int64) - ((1 : Int64) / (16 : Int64)) * (16 : Int64))), .second, .val (.long (((1 : Int64) / (16 : Int64)) + (1 : Int64))), .second] [])) _
            refine XS.iconst X43.here hx rfl (hb hby at_120) ?_
            show Steps p.tables e below (T43.setTop (mkF m 121 #[.val (.long q0), .second, .val (.int p1), .val (.int (1 : Int32)), .val (.ref wC), .val (.long (16 : Int64)), .second, .val (.long (1 : Int64)), .second, .val (.long ((1 : Int64) / (16 : Int64))), .second, .val (.long ((1 : Int64) - ((1 : Int64) / (16 : Int64)) * (16 : Int64))), .second, .val (.long (((1 : Int64) / (16 : Int64)) + (1 : Int64))), .second] [(.int (1 : Int32))])) _
            refine XS.goto X43.here hx rfl (pc0 := 121) (pc' := 125) rfl (hb hby at_121) (by decide) (by decide) ?_
            show Steps p.tables e below (T43.setTop (mkF m 125 #[.val (.long q0), .second, .val (.int p1), .val (.int (1 : Int32)), .val (.ref wC), .val (.long (16 : Int64)), .second, .val (.long (1 : Int64)), .second, .val (.long ((1 : Int64) / (16 : Int64))), .second, .val (.long ((1 : Int64) - ((1 : Int64) / (16 : Int64)) * (16 : Int64))), .second, .val (.long (((1 : Int64) / (16 : Int64)) + (1 : Int64))), .second] [(.int (1 : Int32))])) _
            exact retN X43 hx (t := .boolean) Bd.returns (by simp) (hb hby at_125) hr
          · show own_Q0 n0 _ T43.heap _
            rw [e43]
            exact ⟨rfl, N43⟩
      · have pre46 : ∀ t, Steps p.tables e below (T34.setTop (mkF m 93 #[.val (.long q0), .second, .val (.int p1), .val (.int (1 : Int32)), .val (.ref wC), .val (.long (16 : Int64)), .second, .val (.long (q0 &&& (9223372036854775807 : Int64))), .second, .val (.long ((q0 &&& (9223372036854775807 : Int64)) / (16 : Int64))), .second, .val (.long ((q0 &&& (9223372036854775807 : Int64)) - ((q0 &&& (9223372036854775807 : Int64)) / (16 : Int64)) * (16 : Int64))), .second, .unset, .unset] [(.int (lcmpW ((q0 &&& (9223372036854775807 : Int64)) - ((q0 &&& (9223372036854775807 : Int64)) / (16 : Int64)) * (16 : Int64)) (0 : Int64)))])) t → Steps p.tables e below (s₁.setTop (entryFrame m #[(.long q0), (.int p1)] maxLocals)) t := fun t kt => pre38 t (by
            show Steps p.tables e below (T34.setTop (mkF m 69 #[.val (.long q0), .second, .val (.int p1), .val (.int (1 : Int32)), .val (.ref wC), .val (.long (16 : Int64)), .second, .val (.long (q0 &&& (9223372036854775807 : Int64))), .second, .unset, .unset, .unset, .unset, .unset, .unset] [(.int (lcmpW (q0 &&& (9223372036854775807 : Int64)) (0 : Int64)))])) _
            refine XS.ifYes X34.here hx rfl (pc0 := 69) (pc' := 75) rfl (hb hby at_69) rfl ((if0 _ _).trans (feq (fun qq => hc69_37 ((lw_eq _ _).mp qq))).2) (by decide) (by decide) ?_
            show Steps p.tables e below (T34.setTop (mkF m 75 #[.val (.long q0), .second, .val (.int p1), .val (.int (1 : Int32)), .val (.ref wC), .val (.long (16 : Int64)), .second, .val (.long (q0 &&& (9223372036854775807 : Int64))), .second, .unset, .unset, .unset, .unset, .unset, .unset] [])) _
            refine XS.lload X34.here hx rfl (hb hby at_75) rfl ?_
            show Steps p.tables e below (T34.setTop (mkF m 77 #[.val (.long q0), .second, .val (.int p1), .val (.int (1 : Int32)), .val (.ref wC), .val (.long (16 : Int64)), .second, .val (.long (q0 &&& (9223372036854775807 : Int64))), .second, .unset, .unset, .unset, .unset, .unset, .unset] [(.long (q0 &&& (9223372036854775807 : Int64)))])) _
            refine XS.lload X34.here hx rfl (hb hby at_77) rfl ?_
            show Steps p.tables e below (T34.setTop (mkF m 79 #[.val (.long q0), .second, .val (.int p1), .val (.int (1 : Int32)), .val (.ref wC), .val (.long (16 : Int64)), .second, .val (.long (q0 &&& (9223372036854775807 : Int64))), .second, .unset, .unset, .unset, .unset, .unset, .unset] [(.long (16 : Int64)), (.long (q0 &&& (9223372036854775807 : Int64)))])) _
            refine XS.ldiv X34.here hx rfl (hb hby at_79) rfl (by decide : ¬ ((16 : Int64) = (0 : Int64))) ?_
            show Steps p.tables e below (T34.setTop (mkF m 80 #[.val (.long q0), .second, .val (.int p1), .val (.int (1 : Int32)), .val (.ref wC), .val (.long (16 : Int64)), .second, .val (.long (q0 &&& (9223372036854775807 : Int64))), .second, .unset, .unset, .unset, .unset, .unset, .unset] [(.long ((q0 &&& (9223372036854775807 : Int64)) / (16 : Int64)))])) _
            refine XS.lstore X34.here hx rfl (hb hby at_80) rfl (l' := #[.val (.long q0), .second, .val (.int p1), .val (.int (1 : Int32)), .val (.ref wC), .val (.long (16 : Int64)), .second, .val (.long (q0 &&& (9223372036854775807 : Int64))), .second, .val (.long ((q0 &&& (9223372036854775807 : Int64)) / (16 : Int64))), .second, .unset, .unset, .unset, .unset]) rfl ?_
            show Steps p.tables e below (T34.setTop (mkF m 82 #[.val (.long q0), .second, .val (.int p1), .val (.int (1 : Int32)), .val (.ref wC), .val (.long (16 : Int64)), .second, .val (.long (q0 &&& (9223372036854775807 : Int64))), .second, .val (.long ((q0 &&& (9223372036854775807 : Int64)) / (16 : Int64))), .second, .unset, .unset, .unset, .unset] [])) _
            refine XS.lload X34.here hx rfl (hb hby at_82) rfl ?_
            show Steps p.tables e below (T34.setTop (mkF m 84 #[.val (.long q0), .second, .val (.int p1), .val (.int (1 : Int32)), .val (.ref wC), .val (.long (16 : Int64)), .second, .val (.long (q0 &&& (9223372036854775807 : Int64))), .second, .val (.long ((q0 &&& (9223372036854775807 : Int64)) / (16 : Int64))), .second, .unset, .unset, .unset, .unset] [(.long (q0 &&& (9223372036854775807 : Int64)))])) _
            refine XS.lload X34.here hx rfl (hb hby at_84) rfl ?_
            show Steps p.tables e below (T34.setTop (mkF m 86 #[.val (.long q0), .second, .val (.int p1), .val (.int (1 : Int32)), .val (.ref wC), .val (.long (16 : Int64)), .second, .val (.long (q0 &&& (9223372036854775807 : Int64))), .second, .val (.long ((q0 &&& (9223372036854775807 : Int64)) / (16 : Int64))), .second, .unset, .unset, .unset, .unset] [(.long (16 : Int64)), (.long (q0 &&& (9223372036854775807 : Int64)))])) _
            refine XS.lrem X34.here hx rfl (hb hby at_86) rfl (by decide : ¬ ((16 : Int64) = (0 : Int64))) ?_
            show Steps p.tables e below (T34.setTop (mkF m 87 #[.val (.long q0), .second, .val (.int p1), .val (.int (1 : Int32)), .val (.ref wC), .val (.long (16 : Int64)), .second, .val (.long (q0 &&& (9223372036854775807 : Int64))), .second, .val (.long ((q0 &&& (9223372036854775807 : Int64)) / (16 : Int64))), .second, .unset, .unset, .unset, .unset] [(.long ((q0 &&& (9223372036854775807 : Int64)) - ((q0 &&& (9223372036854775807 : Int64)) / (16 : Int64)) * (16 : Int64)))])) _
            refine XS.lstore X34.here hx rfl (hb hby at_87) rfl (l' := #[.val (.long q0), .second, .val (.int p1), .val (.int (1 : Int32)), .val (.ref wC), .val (.long (16 : Int64)), .second, .val (.long (q0 &&& (9223372036854775807 : Int64))), .second, .val (.long ((q0 &&& (9223372036854775807 : Int64)) / (16 : Int64))), .second, .val (.long ((q0 &&& (9223372036854775807 : Int64)) - ((q0 &&& (9223372036854775807 : Int64)) / (16 : Int64)) * (16 : Int64))), .second, .unset, .unset]) rfl ?_
            show Steps p.tables e below (T34.setTop (mkF m 89 #[.val (.long q0), .second, .val (.int p1), .val (.int (1 : Int32)), .val (.ref wC), .val (.long (16 : Int64)), .second, .val (.long (q0 &&& (9223372036854775807 : Int64))), .second, .val (.long ((q0 &&& (9223372036854775807 : Int64)) / (16 : Int64))), .second, .val (.long ((q0 &&& (9223372036854775807 : Int64)) - ((q0 &&& (9223372036854775807 : Int64)) / (16 : Int64)) * (16 : Int64))), .second, .unset, .unset] [])) _
            refine XS.lload X34.here hx rfl (hb hby at_89) rfl ?_
            show Steps p.tables e below (T34.setTop (mkF m 91 #[.val (.long q0), .second, .val (.int p1), .val (.int (1 : Int32)), .val (.ref wC), .val (.long (16 : Int64)), .second, .val (.long (q0 &&& (9223372036854775807 : Int64))), .second, .val (.long ((q0 &&& (9223372036854775807 : Int64)) / (16 : Int64))), .second, .val (.long ((q0 &&& (9223372036854775807 : Int64)) - ((q0 &&& (9223372036854775807 : Int64)) / (16 : Int64)) * (16 : Int64))), .second, .unset, .unset] [(.long ((q0 &&& (9223372036854775807 : Int64)) - ((q0 &&& (9223372036854775807 : Int64)) / (16 : Int64)) * (16 : Int64)))])) _
            refine XS.lconst X34.here hx rfl (hb hby at_91) ?_
            show Steps p.tables e below (T34.setTop (mkF m 92 #[.val (.long q0), .second, .val (.int p1), .val (.int (1 : Int32)), .val (.ref wC), .val (.long (16 : Int64)), .second, .val (.long (q0 &&& (9223372036854775807 : Int64))), .second, .val (.long ((q0 &&& (9223372036854775807 : Int64)) / (16 : Int64))), .second, .val (.long ((q0 &&& (9223372036854775807 : Int64)) - ((q0 &&& (9223372036854775807 : Int64)) / (16 : Int64)) * (16 : Int64))), .second, .unset, .unset] [(.long (0 : Int64)), (.long ((q0 &&& (9223372036854775807 : Int64)) - ((q0 &&& (9223372036854775807 : Int64)) / (16 : Int64)) * (16 : Int64)))])) _
            refine XS.lcmp X34.here hx rfl (hb hby at_92) rfl ?_
            exact kt)
        by_cases hc93_45 : ((q0 &&& (9223372036854775807 : Int64)) - ((q0 &&& (9223372036854775807 : Int64)) / (16 : Int64)) * (16 : Int64)) = (0 : Int64)
        · obtain ⟨cq48, kq48, q48a, q48b, q48c⟩ := isOf hZ e34 P_E_wC
          obtain ⟨_, _, ⟨T47, L47, k47, n47⟩, -, X47, ⟨Lc47, hQ47, l47, y47, z47⟩, st47⟩ := X34.virtualBack hx (y := (⟨"com/example/keys_to_bits/keystobits/FilterKind", "words", "(J)J"⟩ : MethodName)) (z := (⟨"com/example/keys_to_bits/keystobits/FilterKind", "words", "(J)J"⟩ : MethodName)) hown (mvT hZ (hw _ (List.mem_of_getElem? (i := 5) rfl))) (mvT hZ (hw _ (List.mem_of_getElem? (i := 6) rfl))) (notFace_of_selects (args := #[]) (mvT hZ (hw _ (List.mem_of_getElem? (i := 21) rfl)))) (mvT hZ (hw _ (List.mem_of_getElem? (i := 21) rfl))) (mvT hZ (hw _ (List.mem_of_getElem? (i := 7) rfl))) (by decide) (backOf (W := 0) (rmW2 l Z a0 hw [] wC (q0 &&& (9223372036854775807 : Int64)) h0 n0 Z0 P_E_wC P_F_wC_FilterKind_bitsPerCell) hZ (hw _ (List.mem_of_getElem? (i := 9) rfl)) (hw _ (List.mem_of_getElem? (i := 1) rfl)) (by decide) (by decide)) q48a q48c (g := (mkF m 111 #[.val (.long q0), .second, .val (.int p1), .val (.int (1 : Int32)), .val (.ref wC), .val (.long (16 : Int64)), .second, .val (.long (q0 &&& (9223372036854775807 : Int64))), .second, .val (.long ((q0 &&& (9223372036854775807 : Int64)) / (16 : Int64))), .second, .val (.long ((q0 &&& (9223372036854775807 : Int64)) - ((q0 &&& (9223372036854775807 : Int64)) / (16 : Int64)) * (16 : Int64))), .second, .val (.long ((q0 &&& (9223372036854775807 : Int64)) / (16 : Int64))), .second] [(.long (q0 &&& (9223372036854775807 : Int64))), (.ref wC)])) rfl (by rw [hml]; rfl) (Steps.refl _) (argsL := [(.long (q0 &&& (9223372036854775807 : Int64)))]) (rest := []) (lenOf pd__J_J rfl) rfl (by show 2 * 0 + _ ≤ _; exact Nat.le_of_eq rfl) (hb hby at_111) (fun _ _ => ⟨rfl, e34, (by decide : 0 + 0 ≤ _), (by decide : 0 + 0 ≤ _)⟩)
          dsimp only [Pt.U, Pt.locs, Pt.cells, Pt.slots] at X47 l47 y47 z47 st47 hQ47
          subst l47 y47 z47
          obtain ⟨rfl, N47q, e47⟩ := hQ47
          have N47 := Fr.app N0 N47q
          obtain ⟨fs, hr, hrun, hended, hW, hsame⟩ := X47.leave (v := some (.int (1 : Int32))) (fun h => by rw [Bd.returns] at h; cases h)
          refine ⟨_, _, pre46 _ ?_, hrun, hended, _, _, rfl, ?_, ⟨_, rfl⟩, hW, hsame.mono (by decide) (by decide)⟩
          · show Steps p.tables e below (T34.setTop (mkF m 93 #[.val (.long q0), .second, .val (.int p1), .val (.int (1 : Int32)), .val (.ref wC), .val (.long (16 : Int64)), .second, .val (.long (q0 &&& (9223372036854775807 : Int64))), .second, .val (.long ((q0 &&& (9223372036854775807 : Int64)) / (16 : Int64))), .second, .val (.long ((q0 &&& (9223372036854775807 : Int64)) - ((q0 &&& (9223372036854775807 : Int64)) / (16 : Int64)) * (16 : Int64))), .second, .unset, .unset] [(.int (lcmpW ((q0 &&& (9223372036854775807 : Int64)) - ((q0 &&& (9223372036854775807 : Int64)) / (16 : Int64)) * (16 : Int64)) (0 : Int64)))])) _
            refine XS.ifNo X34.here hx rfl (hb hby at_93) rfl ((if0 _ _).trans (teq ((lw_eq _ _).mpr hc93_45)).2) ?_
            show Steps p.tables e below (T34.setTop (mkF m 96 #[.val (.long q0), .second, .val (.int p1), .val (.int (1 : Int32)), .val (.ref wC), .val (.long (16 : Int64)), .second, .val (.long (q0 &&& (9223372036854775807 : Int64))), .second, .val (.long ((q0 &&& (9223372036854775807 : Int64)) / (16 : Int64))), .second, .val (.long ((q0 &&& (9223372036854775807 : Int64)) - ((q0 &&& (9223372036854775807 : Int64)) / (16 : Int64)) * (16 : Int64))), .second, .unset, .unset] [])) _
            refine XS.lload X34.here hx rfl (hb hby at_96) rfl ?_
            show Steps p.tables e below (T34.setTop (mkF m 98 #[.val (.long q0), .second, .val (.int p1), .val (.int (1 : Int32)), .val (.ref wC), .val (.long (16 : Int64)), .second, .val (.long (q0 &&& (9223372036854775807 : Int64))), .second, .val (.long ((q0 &&& (9223372036854775807 : Int64)) / (16 : Int64))), .second, .val (.long ((q0 &&& (9223372036854775807 : Int64)) - ((q0 &&& (9223372036854775807 : Int64)) / (16 : Int64)) * (16 : Int64))), .second, .unset, .unset] [(.long ((q0 &&& (9223372036854775807 : Int64)) / (16 : Int64)))])) _
            refine XS.goto X34.here hx rfl (pc0 := 98) (pc' := 105) rfl (hb hby at_98) (by decide) (by decide) ?_
            show Steps p.tables e below (T34.setTop (mkF m 105 #[.val (.long q0), .second, .val (.int p1), .val (.int (1 : Int32)), .val (.ref wC), .val (.long (16 : Int64)), .second, .val (.long (q0 &&& (9223372036854775807 : Int64))), .second, .val (.long ((q0 &&& (9223372036854775807 : Int64)) / (16 : Int64))), .second, .val (.long ((q0 &&& (9223372036854775807 : Int64)) - ((q0 &&& (9223372036854775807 : Int64)) / (16 : Int64)) * (16 : Int64))), .second, .unset, .unset] [(.long ((q0 &&& (9223372036854775807 : Int64)) / (16 : Int64)))])) _
            refine XS.lstore X34.here hx rfl (hb hby at_105) rfl (l' := #[.val (.long q0), .second, .val (.int p1), .val (.int (1 : Int32)), .val (.ref wC), .val (.long (16 : Int64)), .second, .val (.long (q0 &&& (9223372036854775807 : Int64))), .second, .val (.long ((q0 &&& (9223372036854775807 : Int64)) / (16 : Int64))), .second, .val (.long ((q0 &&& (9223372036854775807 : Int64)) - ((q0 &&& (9223372036854775807 : Int64)) / (16 : Int64)) * (16 : Int64))), .second, .val (.long ((q0 &&& (9223372036854775807 : Int64)) / (16 : Int64))), .second]) rfl ?_
            show Steps p.tables e below (T34.setTop (mkF m 107 #[.val (.long q0), .second, .val (.int p1), .val (.int (1 : Int32)), .val (.ref wC), .val (.long (16 : Int64)), .second, .val (.long (q0 &&& (9223372036854775807 : Int64))), .second, .val (.long ((q0 &&& (9223372036854775807 : Int64)) / (16 : Int64))), .second, .val (.long ((q0 &&& (9223372036854775807 : Int64)) - ((q0 &&& (9223372036854775807 : Int64)) / (16 : Int64)) * (16 : Int64))), .second, .val (.long ((q0 &&& (9223372036854775807 : Int64)) / (16 : Int64))), .second] [])) _
            refine XS.aload X34.here hx rfl (hb hby at_107) rfl rfl ?_
            show Steps p.tables e below (T34.setTop (mkF m 109 #[.val (.long q0), .second, .val (.int p1), .val (.int (1 : Int32)), .val (.ref wC), .val (.long (16 : Int64)), .second, .val (.long (q0 &&& (9223372036854775807 : Int64))), .second, .val (.long ((q0 &&& (9223372036854775807 : Int64)) / (16 : Int64))), .second, .val (.long ((q0 &&& (9223372036854775807 : Int64)) - ((q0 &&& (9223372036854775807 : Int64)) / (16 : Int64)) * (16 : Int64))), .second, .val (.long ((q0 &&& (9223372036854775807 : Int64)) / (16 : Int64))), .second] [(.ref wC)])) _
            refine XS.lload X34.here hx rfl (hb hby at_109) rfl ?_
            show Steps p.tables e below (T34.setTop (mkF m 111 #[.val (.long q0), .second, .val (.int p1), .val (.int (1 : Int32)), .val (.ref wC), .val (.long (16 : Int64)), .second, .val (.long (q0 &&& (9223372036854775807 : Int64))), .second, .val (.long ((q0 &&& (9223372036854775807 : Int64)) / (16 : Int64))), .second, .val (.long ((q0 &&& (9223372036854775807 : Int64)) - ((q0 &&& (9223372036854775807 : Int64)) / (16 : Int64)) * (16 : Int64))), .second, .val (.long ((q0 &&& (9223372036854775807 : Int64)) / (16 : Int64))), .second] [(.long (q0 &&& (9223372036854775807 : Int64))), (.ref wC)])) _
            refine st47.trans ?_
            show Steps p.tables e below (T47.setTop (mkF m 114 #[.val (.long q0), .second, .val (.int p1), .val (.int (1 : Int32)), .val (.ref wC), .val (.long (16 : Int64)), .second, .val (.long (q0 &&& (9223372036854775807 : Int64))), .second, .val (.long ((q0 &&& (9223372036854775807 : Int64)) / (16 : Int64))), .second, .val (.long ((q0 &&& (9223372036854775807 : Int64)) - ((q0 &&& (9223372036854775807 : Int64)) / (16 : Int64)) * (16 : Int64))), .second, .val (.long ((q0 &&& (9223372036854775807 : Int64)) / (16 : Int64))), .second] [(.long ((((q0 &&& (9223372036854775807 : Int64)) - (1 : Int64)) / ((16 : Int32).toInt64)) + (1 : Int64)))])) _
            refine XS.lload X47.here hx rfl (hb hby at_114) rfl ?_
            show Steps p.tables e below (T47.setTop (mkF m 116 #[.val (.long q0), .second, .val (.int p1), .val (.int (1 : Int32)), .val (.ref wC), .val (.long (16 : Int64)), .second, .val (.long (q0 &&& (9223372036854775807 : Int64))), .second, .val (.long ((q0 &&& (9223372036854775807 : Int64)) / (16 : Int64))), .second, .val (.long ((q0 &&& (9223372036854775807 : Int64)) - ((q0 &&& (9223372036854775807 : Int64)) / (16 : Int64)) * (16 : Int64))), .second, .val (.long ((q0 &&& (9223372036854775807 : Int64)) / (16 : Int64))), .second] [(.long ((q0 &&& (9223372036854775807 : Int64)) / (16 : Int64))), (.long ((((q0 &&& (9223372036854775807 : Int64)) - (1 : Int64)) / ((16 : Int32).toInt64)) + (1 : Int64)))])) _
            refine XS.lcmp X47.here hx rfl (hb hby at_116) rfl ?_
            show Steps p.tables e below (T47.setTop (mkF m 117 #[.val (.long q0), .second, .val (.int p1), .val (.int (1 : Int32)), .val (.ref wC), .val (.long (16 : Int64)), .second, .val (.long (q0 &&& (9223372036854775807 : Int64))), .second, .val (.long ((q0 &&& (9223372036854775807 : Int64)) / (16 : Int64))), .second, .val (.long ((q0 &&& (9223372036854775807 : Int64)) - ((q0 &&& (9223372036854775807 : Int64)) / (16 : Int64)) * (16 : Int64))), .second, .val (.long ((q0 &&& (9223372036854775807 : Int64)) / (16 : Int64))), .second] [(.int (lcmpW ((((q0 &&& (9223372036854775807 : Int64)) - (1 : Int64)) / ((16 : Int32).toInt64)) + (1 : Int64)) ((q0 &&& (9223372036854775807 : Int64)) / (16 : Int64))))])) _
            refine XS.ifNo X47.here hx rfl (hb hby at_117) rfl ((if0 _ _).trans (teq ((lw_eq _ _).mpr (own_w0_16 (own_cp2 hc69_37) hc93_45))).2) ?_
            show Steps p.tables e below (T47.setTop (mkF m 120 #[.val (.long q0), .second, .val (.int p1), .val (.int (1 : Int32)), .val (.ref wC), .val (.long (16 : Int64)), .second, .val (.long (q0 &&& (9223372036854775807 : Int64))), .second, .val (.long ((q0 &&& (9223372036854775807 : Int64)) / (16 : Int64))), .second, .val (.long ((q0 &&& (9223372036854775807 : Int64)) - ((q0 &&& (9223372036854775807 : Int64)) / (16 : Int64)) * (16 : Int64))), .second, .val (.long ((q0 &&& (9223372036854775807 : Int64)) / (16 : Int64))), .second] [])) _
            refine XS.iconst X47.here hx rfl (hb hby at_120) ?_
            show Steps p.tables e below (T47.setTop (mkF m 121 #[.val (.long q0), .second, .val (.int p1), .val (.int (1 : Int32)), .val (.ref wC), .val (.long (16 : Int64)), .second, .val (.long (q0 &&& (9223372036854775807 : Int64))), .second, .val (.long ((q0 &&& (9223372036854775807 : Int64)) / (16 : Int64))), .second, .val (.long ((q0 &&& (9223372036854775807 : Int64)) - ((q0 &&& (9223372036854775807 : Int64)) / (16 : Int64)) * (16 : Int64))), .second, .val (.long ((q0 &&& (9223372036854775807 : Int64)) / (16 : Int64))), .second] [(.int (1 : Int32))])) _
            refine XS.goto X47.here hx rfl (pc0 := 121) (pc' := 125) rfl (hb hby at_121) (by decide) (by decide) ?_
            show Steps p.tables e below (T47.setTop (mkF m 125 #[.val (.long q0), .second, .val (.int p1), .val (.int (1 : Int32)), .val (.ref wC), .val (.long (16 : Int64)), .second, .val (.long (q0 &&& (9223372036854775807 : Int64))), .second, .val (.long ((q0 &&& (9223372036854775807 : Int64)) / (16 : Int64))), .second, .val (.long ((q0 &&& (9223372036854775807 : Int64)) - ((q0 &&& (9223372036854775807 : Int64)) / (16 : Int64)) * (16 : Int64))), .second, .val (.long ((q0 &&& (9223372036854775807 : Int64)) / (16 : Int64))), .second] [(.int (1 : Int32))])) _
            exact retN X47 hx (t := .boolean) Bd.returns (by simp) (hb hby at_125) hr
          · show own_Q0 n0 _ T47.heap _
            rw [e47]
            exact ⟨rfl, N47⟩
        · obtain ⟨cq50, kq50, q50a, q50b, q50c⟩ := isOf hZ e34 P_E_wC
          obtain ⟨_, _, ⟨T49, L49, k49, n49⟩, -, X49, ⟨Lc49, hQ49, l49, y49, z49⟩, st49⟩ := X34.virtualBack hx (y := (⟨"com/example/keys_to_bits/keystobits/FilterKind", "words", "(J)J"⟩ : MethodName)) (z := (⟨"com/example/keys_to_bits/keystobits/FilterKind", "words", "(J)J"⟩ : MethodName)) hown (mvT hZ (hw _ (List.mem_of_getElem? (i := 5) rfl))) (mvT hZ (hw _ (List.mem_of_getElem? (i := 6) rfl))) (notFace_of_selects (args := #[]) (mvT hZ (hw _ (List.mem_of_getElem? (i := 21) rfl)))) (mvT hZ (hw _ (List.mem_of_getElem? (i := 21) rfl))) (mvT hZ (hw _ (List.mem_of_getElem? (i := 7) rfl))) (by decide) (backOf (W := 0) (rmW2 l Z a0 hw [] wC (q0 &&& (9223372036854775807 : Int64)) h0 n0 Z0 P_E_wC P_F_wC_FilterKind_bitsPerCell) hZ (hw _ (List.mem_of_getElem? (i := 9) rfl)) (hw _ (List.mem_of_getElem? (i := 1) rfl)) (by decide) (by decide)) q50a q50c (g := (mkF m 111 #[.val (.long q0), .second, .val (.int p1), .val (.int (1 : Int32)), .val (.ref wC), .val (.long (16 : Int64)), .second, .val (.long (q0 &&& (9223372036854775807 : Int64))), .second, .val (.long ((q0 &&& (9223372036854775807 : Int64)) / (16 : Int64))), .second, .val (.long ((q0 &&& (9223372036854775807 : Int64)) - ((q0 &&& (9223372036854775807 : Int64)) / (16 : Int64)) * (16 : Int64))), .second, .val (.long (((q0 &&& (9223372036854775807 : Int64)) / (16 : Int64)) + (1 : Int64))), .second] [(.long (q0 &&& (9223372036854775807 : Int64))), (.ref wC)])) rfl (by rw [hml]; rfl) (Steps.refl _) (argsL := [(.long (q0 &&& (9223372036854775807 : Int64)))]) (rest := []) (lenOf pd__J_J rfl) rfl (by show 2 * 0 + _ ≤ _; exact Nat.le_of_eq rfl) (hb hby at_111) (fun _ _ => ⟨rfl, e34, (by decide : 0 + 0 ≤ _), (by decide : 0 + 0 ≤ _)⟩)
          dsimp only [Pt.U, Pt.locs, Pt.cells, Pt.slots] at X49 l49 y49 z49 st49 hQ49
          subst l49 y49 z49
          obtain ⟨rfl, N49q, e49⟩ := hQ49
          have N49 := Fr.app N0 N49q
          obtain ⟨fs, hr, hrun, hended, hW, hsame⟩ := X49.leave (v := some (.int (1 : Int32))) (fun h => by rw [Bd.returns] at h; cases h)
          refine ⟨_, _, pre46 _ ?_, hrun, hended, _, _, rfl, ?_, ⟨_, rfl⟩, hW, hsame.mono (by decide) (by decide)⟩
          · show Steps p.tables e below (T34.setTop (mkF m 93 #[.val (.long q0), .second, .val (.int p1), .val (.int (1 : Int32)), .val (.ref wC), .val (.long (16 : Int64)), .second, .val (.long (q0 &&& (9223372036854775807 : Int64))), .second, .val (.long ((q0 &&& (9223372036854775807 : Int64)) / (16 : Int64))), .second, .val (.long ((q0 &&& (9223372036854775807 : Int64)) - ((q0 &&& (9223372036854775807 : Int64)) / (16 : Int64)) * (16 : Int64))), .second, .unset, .unset] [(.int (lcmpW ((q0 &&& (9223372036854775807 : Int64)) - ((q0 &&& (9223372036854775807 : Int64)) / (16 : Int64)) * (16 : Int64)) (0 : Int64)))])) _
            refine XS.ifYes X34.here hx rfl (pc0 := 93) (pc' := 101) rfl (hb hby at_93) rfl ((if0 _ _).trans (feq (fun qq => hc93_45 ((lw_eq _ _).mp qq))).2) (by decide) (by decide) ?_
            show Steps p.tables e below (T34.setTop (mkF m 101 #[.val (.long q0), .second, .val (.int p1), .val (.int (1 : Int32)), .val (.ref wC), .val (.long (16 : Int64)), .second, .val (.long (q0 &&& (9223372036854775807 : Int64))), .second, .val (.long ((q0 &&& (9223372036854775807 : Int64)) / (16 : Int64))), .second, .val (.long ((q0 &&& (9223372036854775807 : Int64)) - ((q0 &&& (9223372036854775807 : Int64)) / (16 : Int64)) * (16 : Int64))), .second, .unset, .unset] [])) _
            refine XS.lload X34.here hx rfl (hb hby at_101) rfl ?_
            show Steps p.tables e below (T34.setTop (mkF m 103 #[.val (.long q0), .second, .val (.int p1), .val (.int (1 : Int32)), .val (.ref wC), .val (.long (16 : Int64)), .second, .val (.long (q0 &&& (9223372036854775807 : Int64))), .second, .val (.long ((q0 &&& (9223372036854775807 : Int64)) / (16 : Int64))), .second, .val (.long ((q0 &&& (9223372036854775807 : Int64)) - ((q0 &&& (9223372036854775807 : Int64)) / (16 : Int64)) * (16 : Int64))), .second, .unset, .unset] [(.long ((q0 &&& (9223372036854775807 : Int64)) / (16 : Int64)))])) _
            refine XS.lconst X34.here hx rfl (hb hby at_103) ?_
            show Steps p.tables e below (T34.setTop (mkF m 104 #[.val (.long q0), .second, .val (.int p1), .val (.int (1 : Int32)), .val (.ref wC), .val (.long (16 : Int64)), .second, .val (.long (q0 &&& (9223372036854775807 : Int64))), .second, .val (.long ((q0 &&& (9223372036854775807 : Int64)) / (16 : Int64))), .second, .val (.long ((q0 &&& (9223372036854775807 : Int64)) - ((q0 &&& (9223372036854775807 : Int64)) / (16 : Int64)) * (16 : Int64))), .second, .unset, .unset] [(.long (1 : Int64)), (.long ((q0 &&& (9223372036854775807 : Int64)) / (16 : Int64)))])) _
            refine XS.ladd X34.here hx rfl (hb hby at_104) rfl ?_
            show Steps p.tables e below (T34.setTop (mkF m 105 #[.val (.long q0), .second, .val (.int p1), .val (.int (1 : Int32)), .val (.ref wC), .val (.long (16 : Int64)), .second, .val (.long (q0 &&& (9223372036854775807 : Int64))), .second, .val (.long ((q0 &&& (9223372036854775807 : Int64)) / (16 : Int64))), .second, .val (.long ((q0 &&& (9223372036854775807 : Int64)) - ((q0 &&& (9223372036854775807 : Int64)) / (16 : Int64)) * (16 : Int64))), .second, .unset, .unset] [(.long (((q0 &&& (9223372036854775807 : Int64)) / (16 : Int64)) + (1 : Int64)))])) _
            refine XS.lstore X34.here hx rfl (hb hby at_105) rfl (l' := #[.val (.long q0), .second, .val (.int p1), .val (.int (1 : Int32)), .val (.ref wC), .val (.long (16 : Int64)), .second, .val (.long (q0 &&& (9223372036854775807 : Int64))), .second, .val (.long ((q0 &&& (9223372036854775807 : Int64)) / (16 : Int64))), .second, .val (.long ((q0 &&& (9223372036854775807 : Int64)) - ((q0 &&& (9223372036854775807 : Int64)) / (16 : Int64)) * (16 : Int64))), .second, .val (.long (((q0 &&& (9223372036854775807 : Int64)) / (16 : Int64)) + (1 : Int64))), .second]) rfl ?_
            show Steps p.tables e below (T34.setTop (mkF m 107 #[.val (.long q0), .second, .val (.int p1), .val (.int (1 : Int32)), .val (.ref wC), .val (.long (16 : Int64)), .second, .val (.long (q0 &&& (9223372036854775807 : Int64))), .second, .val (.long ((q0 &&& (9223372036854775807 : Int64)) / (16 : Int64))), .second, .val (.long ((q0 &&& (9223372036854775807 : Int64)) - ((q0 &&& (9223372036854775807 : Int64)) / (16 : Int64)) * (16 : Int64))), .second, .val (.long (((q0 &&& (9223372036854775807 : Int64)) / (16 : Int64)) + (1 : Int64))), .second] [])) _
            refine XS.aload X34.here hx rfl (hb hby at_107) rfl rfl ?_
            show Steps p.tables e below (T34.setTop (mkF m 109 #[.val (.long q0), .second, .val (.int p1), .val (.int (1 : Int32)), .val (.ref wC), .val (.long (16 : Int64)), .second, .val (.long (q0 &&& (9223372036854775807 : Int64))), .second, .val (.long ((q0 &&& (9223372036854775807 : Int64)) / (16 : Int64))), .second, .val (.long ((q0 &&& (9223372036854775807 : Int64)) - ((q0 &&& (9223372036854775807 : Int64)) / (16 : Int64)) * (16 : Int64))), .second, .val (.long (((q0 &&& (9223372036854775807 : Int64)) / (16 : Int64)) + (1 : Int64))), .second] [(.ref wC)])) _
            refine XS.lload X34.here hx rfl (hb hby at_109) rfl ?_
            show Steps p.tables e below (T34.setTop (mkF m 111 #[.val (.long q0), .second, .val (.int p1), .val (.int (1 : Int32)), .val (.ref wC), .val (.long (16 : Int64)), .second, .val (.long (q0 &&& (9223372036854775807 : Int64))), .second, .val (.long ((q0 &&& (9223372036854775807 : Int64)) / (16 : Int64))), .second, .val (.long ((q0 &&& (9223372036854775807 : Int64)) - ((q0 &&& (9223372036854775807 : Int64)) / (16 : Int64)) * (16 : Int64))), .second, .val (.long (((q0 &&& (9223372036854775807 : Int64)) / (16 : Int64)) + (1 : Int64))), .second] [(.long (q0 &&& (9223372036854775807 : Int64))), (.ref wC)])) _
            refine st49.trans ?_
            show Steps p.tables e below (T49.setTop (mkF m 114 #[.val (.long q0), .second, .val (.int p1), .val (.int (1 : Int32)), .val (.ref wC), .val (.long (16 : Int64)), .second, .val (.long (q0 &&& (9223372036854775807 : Int64))), .second, .val (.long ((q0 &&& (9223372036854775807 : Int64)) / (16 : Int64))), .second, .val (.long ((q0 &&& (9223372036854775807 : Int64)) - ((q0 &&& (9223372036854775807 : Int64)) / (16 : Int64)) * (16 : Int64))), .second, .val (.long (((q0 &&& (9223372036854775807 : Int64)) / (16 : Int64)) + (1 : Int64))), .second] [(.long ((((q0 &&& (9223372036854775807 : Int64)) - (1 : Int64)) / ((16 : Int32).toInt64)) + (1 : Int64)))])) _
            refine XS.lload X49.here hx rfl (hb hby at_114) rfl ?_
            show Steps p.tables e below (T49.setTop (mkF m 116 #[.val (.long q0), .second, .val (.int p1), .val (.int (1 : Int32)), .val (.ref wC), .val (.long (16 : Int64)), .second, .val (.long (q0 &&& (9223372036854775807 : Int64))), .second, .val (.long ((q0 &&& (9223372036854775807 : Int64)) / (16 : Int64))), .second, .val (.long ((q0 &&& (9223372036854775807 : Int64)) - ((q0 &&& (9223372036854775807 : Int64)) / (16 : Int64)) * (16 : Int64))), .second, .val (.long (((q0 &&& (9223372036854775807 : Int64)) / (16 : Int64)) + (1 : Int64))), .second] [(.long (((q0 &&& (9223372036854775807 : Int64)) / (16 : Int64)) + (1 : Int64))), (.long ((((q0 &&& (9223372036854775807 : Int64)) - (1 : Int64)) / ((16 : Int32).toInt64)) + (1 : Int64)))])) _
            refine XS.lcmp X49.here hx rfl (hb hby at_116) rfl ?_
            show Steps p.tables e below (T49.setTop (mkF m 117 #[.val (.long q0), .second, .val (.int p1), .val (.int (1 : Int32)), .val (.ref wC), .val (.long (16 : Int64)), .second, .val (.long (q0 &&& (9223372036854775807 : Int64))), .second, .val (.long ((q0 &&& (9223372036854775807 : Int64)) / (16 : Int64))), .second, .val (.long ((q0 &&& (9223372036854775807 : Int64)) - ((q0 &&& (9223372036854775807 : Int64)) / (16 : Int64)) * (16 : Int64))), .second, .val (.long (((q0 &&& (9223372036854775807 : Int64)) / (16 : Int64)) + (1 : Int64))), .second] [(.int (lcmpW ((((q0 &&& (9223372036854775807 : Int64)) - (1 : Int64)) / ((16 : Int32).toInt64)) + (1 : Int64)) (((q0 &&& (9223372036854775807 : Int64)) / (16 : Int64)) + (1 : Int64))))])) _
            refine XS.ifNo X49.here hx rfl (hb hby at_117) rfl ((if0 _ _).trans (teq ((lw_eq _ _).mpr (own_w1_16 (own_cp2 hc69_37) hc93_45))).2) ?_
            show Steps p.tables e below (T49.setTop (mkF m 120 #[.val (.long q0), .second, .val (.int p1), .val (.int (1 : Int32)), .val (.ref wC), .val (.long (16 : Int64)), .second, .val (.long (q0 &&& (9223372036854775807 : Int64))), .second, .val (.long ((q0 &&& (9223372036854775807 : Int64)) / (16 : Int64))), .second, .val (.long ((q0 &&& (9223372036854775807 : Int64)) - ((q0 &&& (9223372036854775807 : Int64)) / (16 : Int64)) * (16 : Int64))), .second, .val (.long (((q0 &&& (9223372036854775807 : Int64)) / (16 : Int64)) + (1 : Int64))), .second] [])) _
            refine XS.iconst X49.here hx rfl (hb hby at_120) ?_
            show Steps p.tables e below (T49.setTop (mkF m 121 #[.val (.long q0), .second, .val (.int p1), .val (.int (1 : Int32)), .val (.ref wC), .val (.long (16 : Int64)), .second, .val (.long (q0 &&& (9223372036854775807 : Int64))), .second, .val (.long ((q0 &&& (9223372036854775807 : Int64)) / (16 : Int64))), .second, .val (.long ((q0 &&& (9223372036854775807 : Int64)) - ((q0 &&& (9223372036854775807 : Int64)) / (16 : Int64)) * (16 : Int64))), .second, .val (.long (((q0 &&& (9223372036854775807 : Int64)) / (16 : Int64)) + (1 : Int64))), .second] [(.int (1 : Int32))])) _
            refine XS.goto X49.here hx rfl (pc0 := 121) (pc' := 125) rfl (hb hby at_121) (by decide) (by decide) ?_
            show Steps p.tables e below (T49.setTop (mkF m 125 #[.val (.long q0), .second, .val (.int p1), .val (.int (1 : Int32)), .val (.ref wC), .val (.long (16 : Int64)), .second, .val (.long (q0 &&& (9223372036854775807 : Int64))), .second, .val (.long ((q0 &&& (9223372036854775807 : Int64)) / (16 : Int64))), .second, .val (.long ((q0 &&& (9223372036854775807 : Int64)) - ((q0 &&& (9223372036854775807 : Int64)) / (16 : Int64)) * (16 : Int64))), .second, .val (.long (((q0 &&& (9223372036854775807 : Int64)) / (16 : Int64)) + (1 : Int64))), .second] [(.int (1 : Int32))])) _
            exact retN X49 hx (t := .boolean) Bd.returns (by simp) (hb hby at_125) hr
          · show own_Q0 n0 _ T49.heap _
            rw [e49]
            exact ⟨rfl, N49⟩
    · have pre52 : ∀ t, Steps p.tables e below (T34.setTop (mkF m 69 #[.val (.long q0), .second, .val (.int p1), .val (.int (1 : Int32)), .val (.ref wC), .val (.long (16 : Int64)), .second, .val (.long ((q0 &&& (255 : Int64)) + (1 : Int64))), .second, .unset, .unset, .unset, .unset, .unset, .unset] [(.int (lcmpW ((q0 &&& (255 : Int64)) + (1 : Int64)) (0 : Int64)))])) t → Steps p.tables e below (s₁.setTop (entryFrame m #[(.long q0), (.int p1)] maxLocals)) t := fun t kt => pre36 t (by
          show Steps p.tables e below (T34.setTop (mkF m 45 #[.val (.long q0), .second, .val (.int p1), .val (.int (1 : Int32)), .val (.ref wC), .val (.long (16 : Int64)), .second, .unset, .unset, .unset, .unset, .unset, .unset, .unset, .unset] [(.int (p1 &&& (2 : Int32)))])) _
          refine XS.ifNo X34.here hx rfl (hb hby at_45) rfl ((if0 _ _).trans (feq hc45_35).1) ?_
          show Steps p.tables e below (T34.setTop (mkF m 48 #[.val (.long q0), .second, .val (.int p1), .val (.int (1 : Int32)), .val (.ref wC), .val (.long (16 : Int64)), .second, .unset, .unset, .unset, .unset, .unset, .unset, .unset, .unset] [])) _
          refine XS.lloadN X34.here hx rfl (hb hby at_48) rfl ?_
          show Steps p.tables e below (T34.setTop (mkF m 49 #[.val (.long q0), .second, .val (.int p1), .val (.int (1 : Int32)), .val (.ref wC), .val (.long (16 : Int64)), .second, .unset, .unset, .unset, .unset, .unset, .unset, .unset, .unset] [(.long q0)])) _
          refine X34.ldc2Long hx hown (mvT hZ (hw _ (List.mem_of_getElem? (i := 4) rfl))) (g := (mkF m 49 #[.val (.long q0), .second, .val (.int p1), .val (.int (1 : Int32)), .val (.ref wC), .val (.long (16 : Int64)), .second, .unset, .unset, .unset, .unset, .unset, .unset, .unset, .unset] [(.long q0)])) rfl (hb hby at_49) _ ?_
          show Steps p.tables e below (T34.setTop (mkF m 52 #[.val (.long q0), .second, .val (.int p1), .val (.int (1 : Int32)), .val (.ref wC), .val (.long (16 : Int64)), .second, .unset, .unset, .unset, .unset, .unset, .unset, .unset, .unset] [(.long (255 : Int64)), (.long q0)])) _
          refine XS.land X34.here hx rfl (hb hby at_52) rfl ?_
          show Steps p.tables e below (T34.setTop (mkF m 53 #[.val (.long q0), .second, .val (.int p1), .val (.int (1 : Int32)), .val (.ref wC), .val (.long (16 : Int64)), .second, .unset, .unset, .unset, .unset, .unset, .unset, .unset, .unset] [(.long (q0 &&& (255 : Int64)))])) _
          refine XS.lconst X34.here hx rfl (hb hby at_53) ?_
          show Steps p.tables e below (T34.setTop (mkF m 54 #[.val (.long q0), .second, .val (.int p1), .val (.int (1 : Int32)), .val (.ref wC), .val (.long (16 : Int64)), .second, .unset, .unset, .unset, .unset, .unset, .unset, .unset, .unset] [(.long (1 : Int64)), (.long (q0 &&& (255 : Int64)))])) _
          refine XS.ladd X34.here hx rfl (hb hby at_54) rfl ?_
          show Steps p.tables e below (T34.setTop (mkF m 55 #[.val (.long q0), .second, .val (.int p1), .val (.int (1 : Int32)), .val (.ref wC), .val (.long (16 : Int64)), .second, .unset, .unset, .unset, .unset, .unset, .unset, .unset, .unset] [(.long ((q0 &&& (255 : Int64)) + (1 : Int64)))])) _
          refine XS.goto X34.here hx rfl (pc0 := 55) (pc' := 63) rfl (hb hby at_55) (by decide) (by decide) ?_
          show Steps p.tables e below (T34.setTop (mkF m 63 #[.val (.long q0), .second, .val (.int p1), .val (.int (1 : Int32)), .val (.ref wC), .val (.long (16 : Int64)), .second, .unset, .unset, .unset, .unset, .unset, .unset, .unset, .unset] [(.long ((q0 &&& (255 : Int64)) + (1 : Int64)))])) _
          refine XS.lstore X34.here hx rfl (hb hby at_63) rfl (l' := #[.val (.long q0), .second, .val (.int p1), .val (.int (1 : Int32)), .val (.ref wC), .val (.long (16 : Int64)), .second, .val (.long ((q0 &&& (255 : Int64)) + (1 : Int64))), .second, .unset, .unset, .unset, .unset, .unset, .unset]) rfl ?_
          show Steps p.tables e below (T34.setTop (mkF m 65 #[.val (.long q0), .second, .val (.int p1), .val (.int (1 : Int32)), .val (.ref wC), .val (.long (16 : Int64)), .second, .val (.long ((q0 &&& (255 : Int64)) + (1 : Int64))), .second, .unset, .unset, .unset, .unset, .unset, .unset] [])) _
          refine XS.lload X34.here hx rfl (hb hby at_65) rfl ?_
          show Steps p.tables e below (T34.setTop (mkF m 67 #[.val (.long q0), .second, .val (.int p1), .val (.int (1 : Int32)), .val (.ref wC), .val (.long (16 : Int64)), .second, .val (.long ((q0 &&& (255 : Int64)) + (1 : Int64))), .second, .unset, .unset, .unset, .unset, .unset, .unset] [(.long ((q0 &&& (255 : Int64)) + (1 : Int64)))])) _
          refine XS.lconst X34.here hx rfl (hb hby at_67) ?_
          show Steps p.tables e below (T34.setTop (mkF m 68 #[.val (.long q0), .second, .val (.int p1), .val (.int (1 : Int32)), .val (.ref wC), .val (.long (16 : Int64)), .second, .val (.long ((q0 &&& (255 : Int64)) + (1 : Int64))), .second, .unset, .unset, .unset, .unset, .unset, .unset] [(.long (0 : Int64)), (.long ((q0 &&& (255 : Int64)) + (1 : Int64)))])) _
          refine XS.lcmp X34.here hx rfl (hb hby at_68) rfl ?_
          exact kt)
      by_cases hc69_51 : ((q0 &&& (255 : Int64)) + (1 : Int64)) = (0 : Int64)
      · have pre54 : ∀ t, Steps p.tables e below (T34.setTop (mkF m 93 #[.val (.long q0), .second, .val (.int p1), .val (.int (1 : Int32)), .val (.ref wC), .val (.long (16 : Int64)), .second, .val (.long (1 : Int64)), .second, .val (.long ((1 : Int64) / (16 : Int64))), .second, .val (.long ((1 : Int64) - ((1 : Int64) / (16 : Int64)) * (16 : Int64))), .second, .unset, .unset] [(.int (lcmpW ((1 : Int64) - ((1 : Int64) / (16 : Int64)) * (16 : Int64)) (0 : Int64)))])) t → Steps p.tables e below (s₁.setTop (entryFrame m #[(.long q0), (.int p1)] maxLocals)) t := fun t kt => pre52 t (by
            show Steps p.tables e below (T34.setTop (mkF m 69 #[.val (.long q0), .second, .val (.int p1), .val (.int (1 : Int32)), .val (.ref wC), .val (.long (16 : Int64)), .second, .val (.long ((q0 &&& (255 : Int64)) + (1 : Int64))), .second, .unset, .unset, .unset, .unset, .unset, .unset] [(.int (lcmpW ((q0 &&& (255 : Int64)) + (1 : Int64)) (0 : Int64)))])) _
            refine XS.ifNo X34.here hx rfl (hb hby at_69) rfl ((if0 _ _).trans (teq ((lw_eq _ _).mpr hc69_51)).2) ?_
            show Steps p.tables e below (T34.setTop (mkF m 72 #[.val (.long q0), .second, .val (.int p1), .val (.int (1 : Int32)), .val (.ref wC), .val (.long (16 : Int64)), .second, .val (.long ((q0 &&& (255 : Int64)) + (1 : Int64))), .second, .unset, .unset, .unset, .unset, .unset, .unset] [])) _
            refine XS.lconst X34.here hx rfl (hb hby at_72) ?_
            show Steps p.tables e below (T34.setTop (mkF m 73 #[.val (.long q0), .second, .val (.int p1), .val (.int (1 : Int32)), .val (.ref wC), .val (.long (16 : Int64)), .second, .val (.long ((q0 &&& (255 : Int64)) + (1 : Int64))), .second, .unset, .unset, .unset, .unset, .unset, .unset] [(.long (1 : Int64))])) _
            refine XS.lstore X34.here hx rfl (hb hby at_73) rfl (l' := #[.val (.long q0), .second, .val (.int p1), .val (.int (1 : Int32)), .val (.ref wC), .val (.long (16 : Int64)), .second, .val (.long (1 : Int64)), .second, .unset, .unset, .unset, .unset, .unset, .unset]) rfl ?_
            show Steps p.tables e below (T34.setTop (mkF m 75 #[.val (.long q0), .second, .val (.int p1), .val (.int (1 : Int32)), .val (.ref wC), .val (.long (16 : Int64)), .second, .val (.long (1 : Int64)), .second, .unset, .unset, .unset, .unset, .unset, .unset] [])) _
            refine XS.lload X34.here hx rfl (hb hby at_75) rfl ?_
            show Steps p.tables e below (T34.setTop (mkF m 77 #[.val (.long q0), .second, .val (.int p1), .val (.int (1 : Int32)), .val (.ref wC), .val (.long (16 : Int64)), .second, .val (.long (1 : Int64)), .second, .unset, .unset, .unset, .unset, .unset, .unset] [(.long (1 : Int64))])) _
            refine XS.lload X34.here hx rfl (hb hby at_77) rfl ?_
            show Steps p.tables e below (T34.setTop (mkF m 79 #[.val (.long q0), .second, .val (.int p1), .val (.int (1 : Int32)), .val (.ref wC), .val (.long (16 : Int64)), .second, .val (.long (1 : Int64)), .second, .unset, .unset, .unset, .unset, .unset, .unset] [(.long (16 : Int64)), (.long (1 : Int64))])) _
            refine XS.ldiv X34.here hx rfl (hb hby at_79) rfl (by decide : ¬ ((16 : Int64) = (0 : Int64))) ?_
            show Steps p.tables e below (T34.setTop (mkF m 80 #[.val (.long q0), .second, .val (.int p1), .val (.int (1 : Int32)), .val (.ref wC), .val (.long (16 : Int64)), .second, .val (.long (1 : Int64)), .second, .unset, .unset, .unset, .unset, .unset, .unset] [(.long ((1 : Int64) / (16 : Int64)))])) _
            refine XS.lstore X34.here hx rfl (hb hby at_80) rfl (l' := #[.val (.long q0), .second, .val (.int p1), .val (.int (1 : Int32)), .val (.ref wC), .val (.long (16 : Int64)), .second, .val (.long (1 : Int64)), .second, .val (.long ((1 : Int64) / (16 : Int64))), .second, .unset, .unset, .unset, .unset]) rfl ?_
            show Steps p.tables e below (T34.setTop (mkF m 82 #[.val (.long q0), .second, .val (.int p1), .val (.int (1 : Int32)), .val (.ref wC), .val (.long (16 : Int64)), .second, .val (.long (1 : Int64)), .second, .val (.long ((1 : Int64) / (16 : Int64))), .second, .unset, .unset, .unset, .unset] [])) _
            refine XS.lload X34.here hx rfl (hb hby at_82) rfl ?_
            show Steps p.tables e below (T34.setTop (mkF m 84 #[.val (.long q0), .second, .val (.int p1), .val (.int (1 : Int32)), .val (.ref wC), .val (.long (16 : Int64)), .second, .val (.long (1 : Int64)), .second, .val (.long ((1 : Int64) / (16 : Int64))), .second, .unset, .unset, .unset, .unset] [(.long (1 : Int64))])) _
            refine XS.lload X34.here hx rfl (hb hby at_84) rfl ?_
            show Steps p.tables e below (T34.setTop (mkF m 86 #[.val (.long q0), .second, .val (.int p1), .val (.int (1 : Int32)), .val (.ref wC), .val (.long (16 : Int64)), .second, .val (.long (1 : Int64)), .second, .val (.long ((1 : Int64) / (16 : Int64))), .second, .unset, .unset, .unset, .unset] [(.long (16 : Int64)), (.long (1 : Int64))])) _
            refine XS.lrem X34.here hx rfl (hb hby at_86) rfl (by decide : ¬ ((16 : Int64) = (0 : Int64))) ?_
            show Steps p.tables e below (T34.setTop (mkF m 87 #[.val (.long q0), .second, .val (.int p1), .val (.int (1 : Int32)), .val (.ref wC), .val (.long (16 : Int64)), .second, .val (.long (1 : Int64)), .second, .val (.long ((1 : Int64) / (16 : Int64))), .second, .unset, .unset, .unset, .unset] [(.long ((1 : Int64) - ((1 : Int64) / (16 : Int64)) * (16 : Int64)))])) _
            refine XS.lstore X34.here hx rfl (hb hby at_87) rfl (l' := #[.val (.long q0), .second, .val (.int p1), .val (.int (1 : Int32)), .val (.ref wC), .val (.long (16 : Int64)), .second, .val (.long (1 : Int64)), .second, .val (.long ((1 : Int64) / (16 : Int64))), .second, .val (.long ((1 : Int64) - ((1 : Int64) / (16 : Int64)) * (16 : Int64))), .second, .unset, .unset]) rfl ?_
            show Steps p.tables e below (T34.setTop (mkF m 89 #[.val (.long q0), .second, .val (.int p1), .val (.int (1 : Int32)), .val (.ref wC), .val (.long (16 : Int64)), .second, .val (.long (1 : Int64)), .second, .val (.long ((1 : Int64) / (16 : Int64))), .second, .val (.long ((1 : Int64) - ((1 : Int64) / (16 : Int64)) * (16 : Int64))), .second, .unset, .unset] [])) _
            refine XS.lload X34.here hx rfl (hb hby at_89) rfl ?_
            show Steps p.tables e below (T34.setTop (mkF m 91 #[.val (.long q0), .second, .val (.int p1), .val (.int (1 : Int32)), .val (.ref wC), .val (.long (16 : Int64)), .second, .val (.long (1 : Int64)), .second, .val (.long ((1 : Int64) / (16 : Int64))), .second, .val (.long ((1 : Int64) - ((1 : Int64) / (16 : Int64)) * (16 : Int64))), .second, .unset, .unset] [(.long ((1 : Int64) - ((1 : Int64) / (16 : Int64)) * (16 : Int64)))])) _
            refine XS.lconst X34.here hx rfl (hb hby at_91) ?_
            show Steps p.tables e below (T34.setTop (mkF m 92 #[.val (.long q0), .second, .val (.int p1), .val (.int (1 : Int32)), .val (.ref wC), .val (.long (16 : Int64)), .second, .val (.long (1 : Int64)), .second, .val (.long ((1 : Int64) / (16 : Int64))), .second, .val (.long ((1 : Int64) - ((1 : Int64) / (16 : Int64)) * (16 : Int64))), .second, .unset, .unset] [(.long (0 : Int64)), (.long ((1 : Int64) - ((1 : Int64) / (16 : Int64)) * (16 : Int64)))])) _
            refine XS.lcmp X34.here hx rfl (hb hby at_92) rfl ?_
            exact kt)
        by_cases hc93_53 : ((1 : Int64) - ((1 : Int64) / (16 : Int64)) * (16 : Int64)) = (0 : Int64)
        · obtain ⟨cq56, kq56, q56a, q56b, q56c⟩ := isOf hZ e34 P_E_wC
          obtain ⟨_, _, ⟨T55, L55, k55, n55⟩, -, X55, ⟨Lc55, hQ55, l55, y55, z55⟩, st55⟩ := X34.virtualBack hx (y := (⟨"com/example/keys_to_bits/keystobits/FilterKind", "words", "(J)J"⟩ : MethodName)) (z := (⟨"com/example/keys_to_bits/keystobits/FilterKind", "words", "(J)J"⟩ : MethodName)) hown (mvT hZ (hw _ (List.mem_of_getElem? (i := 5) rfl))) (mvT hZ (hw _ (List.mem_of_getElem? (i := 6) rfl))) (notFace_of_selects (args := #[]) (mvT hZ (hw _ (List.mem_of_getElem? (i := 21) rfl)))) (mvT hZ (hw _ (List.mem_of_getElem? (i := 21) rfl))) (mvT hZ (hw _ (List.mem_of_getElem? (i := 7) rfl))) (by decide) (backOf (W := 0) (rmW2 l Z a0 hw [] wC (1 : Int64) h0 n0 Z0 P_E_wC P_F_wC_FilterKind_bitsPerCell) hZ (hw _ (List.mem_of_getElem? (i := 9) rfl)) (hw _ (List.mem_of_getElem? (i := 1) rfl)) (by decide) (by decide)) q56a q56c (g := (mkF m 111 #[.val (.long q0), .second, .val (.int p1), .val (.int (1 : Int32)), .val (.ref wC), .val (.long (16 : Int64)), .second, .val (.long (1 : Int64)), .second, .val (.long ((1 : Int64) / (16 : Int64))), .second, .val (.long ((1 : Int64) - ((1 : Int64) / (16 : Int64)) * (16 : Int64))), .second, .val (.long ((1 : Int64) / (16 : Int64))), .second] [(.long (1 : Int64)), (.ref wC)])) rfl (by rw [hml]; rfl) (Steps.refl _) (argsL := [(.long (1 : Int64))]) (rest := []) (lenOf pd__J_J rfl) rfl (by show 2 * 0 + _ ≤ _; exact Nat.le_of_eq rfl) (hb hby at_111) (fun _ _ => ⟨rfl, e34, (by decide : 0 + 0 ≤ _), (by decide : 0 + 0 ≤ _)⟩)
          dsimp only [Pt.U, Pt.locs, Pt.cells, Pt.slots] at X55 l55 y55 z55 st55 hQ55
          subst l55 y55 z55
          obtain ⟨rfl, N55q, e55⟩ := hQ55
          have N55 := Fr.app N0 N55q
          obtain ⟨fs, hr, hrun, hended, hW, hsame⟩ := X55.leave (v := some (.int (1 : Int32))) (fun h => by rw [Bd.returns] at h; cases h)
          refine ⟨_, _, pre54 _ ?_, hrun, hended, _, _, rfl, ?_, ⟨_, rfl⟩, hW, hsame.mono (by decide) (by decide)⟩
          · show Steps p.tables e below (T34.setTop (mkF m 93 #[.val (.long q0), .second, .val (.int p1), .val (.int (1 : Int32)), .val (.ref wC), .val (.long (16 : Int64)), .second, .val (.long (1 : Int64)), .second, .val (.long ((1 : Int64) / (16 : Int64))), .second, .val (.long ((1 : Int64) - ((1 : Int64) / (16 : Int64)) * (16 : Int64))), .second, .unset, .unset] [(.int (lcmpW ((1 : Int64) - ((1 : Int64) / (16 : Int64)) * (16 : Int64)) (0 : Int64)))])) _
            refine XS.ifNo X34.here hx rfl (hb hby at_93) rfl ((if0 _ _).trans (teq ((lw_eq _ _).mpr hc93_53)).2) ?_
            show Steps p.tables e below (T34.setTop (mkF m 96 #[.val (.long q0), .second, .val (.int p1), .val (.int (1 : Int32)), .val (.ref wC), .val (.long (16 : Int64)), .second, .val (.long (1 : Int64)), .second, .val (.long ((1 : Int64) / (16 : Int64))), .second, .val (.long ((1 : Int64) - ((1 : Int64) / (16 : Int64)) * (16 : Int64))), .second, .unset, .unset] [])) _
            refine XS.lload X34.here hx rfl (hb hby at_96) rfl ?_
            show Steps p.tables e below (T34.setTop (mkF m 98 #[.val (.long q0), .second, .val (.int p1), .val (.int (1 : Int32)), .val (.ref wC), .val (.long (16 : Int64)), .second, .val (.long (1 : Int64)), .second, .val (.long ((1 : Int64) / (16 : Int64))), .second, .val (.long ((1 : Int64) - ((1 : Int64) / (16 : Int64)) * (16 : Int64))), .second, .unset, .unset] [(.long ((1 : Int64) / (16 : Int64)))])) _
            refine XS.goto X34.here hx rfl (pc0 := 98) (pc' := 105) rfl (hb hby at_98) (by decide) (by decide) ?_
            show Steps p.tables e below (T34.setTop (mkF m 105 #[.val (.long q0), .second, .val (.int p1), .val (.int (1 : Int32)), .val (.ref wC), .val (.long (16 : Int64)), .second, .val (.long (1 : Int64)), .second, .val (.long ((1 : Int64) / (16 : Int64))), .second, .val (.long ((1 : Int64) - ((1 : Int64) / (16 : Int64)) * (16 : Int64))), .second, .unset, .unset] [(.long ((1 : Int64) / (16 : Int64)))])) _
            refine XS.lstore X34.here hx rfl (hb hby at_105) rfl (l' := #[.val (.long q0), .second, .val (.int p1), .val (.int (1 : Int32)), .val (.ref wC), .val (.long (16 : Int64)), .second, .val (.long (1 : Int64)), .second, .val (.long ((1 : Int64) / (16 : Int64))), .second, .val (.long ((1 : Int64) - ((1 : Int64) / (16 : Int64)) * (16 : Int64))), .second, .val (.long ((1 : Int64) / (16 : Int64))), .second]) rfl ?_
            show Steps p.tables e below (T34.setTop (mkF m 107 #[.val (.long q0), .second, .val (.int p1), .val (.int (1 : Int32)), .val (.ref wC), .val (.long (16 : Int64)), .second, .val (.long (1 : Int64)), .second, .val (.long ((1 : Int64) / (16 : Int64))), .second, .val (.long ((1 : Int64) - ((1 : Int64) / (16 : Int64)) * (16 : Int64))), .second, .val (.long ((1 : Int64) / (16 : Int64))), .second] [])) _
            refine XS.aload X34.here hx rfl (hb hby at_107) rfl rfl ?_
            show Steps p.tables e below (T34.setTop (mkF m 109 #[.val (.long q0), .second, .val (.int p1), .val (.int (1 : Int32)), .val (.ref wC), .val (.long (16 : Int64)), .second, .val (.long (1 : Int64)), .second, .val (.long ((1 : Int64) / (16 : Int64))), .second, .val (.long ((1 : Int64) - ((1 : Int64) / (16 : Int64)) * (16 : Int64))), .second, .val (.long ((1 : Int64) / (16 : Int64))), .second] [(.ref wC)])) _
            refine XS.lload X34.here hx rfl (hb hby at_109) rfl ?_
            show Steps p.tables e below (T34.setTop (mkF m 111 #[.val (.long q0), .second, .val (.int p1), .val (.int (1 : Int32)), .val (.ref wC), .val (.long (16 : Int64)), .second, .val (.long (1 : Int64)), .second, .val (.long ((1 : Int64) / (16 : Int64))), .second, .val (.long ((1 : Int64) - ((1 : Int64) / (16 : Int64)) * (16 : Int64))), .second, .val (.long ((1 : Int64) / (16 : Int64))), .second] [(.long (1 : Int64)), (.ref wC)])) _
            refine st55.trans ?_
            show Steps p.tables e below (T55.setTop (mkF m 114 #[.val (.long q0), .second, .val (.int p1), .val (.int (1 : Int32)), .val (.ref wC), .val (.long (16 : Int64)), .second, .val (.long (1 : Int64)), .second, .val (.long ((1 : Int64) / (16 : Int64))), .second, .val (.long ((1 : Int64) - ((1 : Int64) / (16 : Int64)) * (16 : Int64))), .second, .val (.long ((1 : Int64) / (16 : Int64))), .second] [(.long ((((1 : Int64) - (1 : Int64)) / ((16 : Int32).toInt64)) + (1 : Int64)))])) _
            refine XS.lload X55.here hx rfl (hb hby at_114) rfl ?_
            show Steps p.tables e below (T55.setTop (mkF m 116 #[.val (.long q0), .second, .val (.int p1), .val (.int (1 : Int32)), .val (.ref wC), .val (.long (16 : Int64)), .second, .val (.long (1 : Int64)), .second, .val (.long ((1 : Int64) / (16 : Int64))), .second, .val (.long ((1 : Int64) - ((1 : Int64) / (16 : Int64)) * (16 : Int64))), .second, .val (.long ((1 : Int64) / (16 : Int64))), .second] [(.long ((1 : Int64) / (16 : Int64))), (.long ((((1 : Int64) - (1 : Int64)) / ((16 : Int32).toInt64)) + (1 : Int64)))])) _
            refine XS.lcmp X55.here hx rfl (hb hby at_116) rfl ?_
            show Steps p.tables e below (T55.setTop (mkF m 117 #[.val (.long q0), .second, .val (.int p1), .val (.int (1 : Int32)), .val (.ref wC), .val (.long (16 : Int64)), .second, .val (.long (1 : Int64)), .second, .val (.long ((1 : Int64) / (16 : Int64))), .second, .val (.long ((1 : Int64) - ((1 : Int64) / (16 : Int64)) * (16 : Int64))), .second, .val (.long ((1 : Int64) / (16 : Int64))), .second] [(.int (lcmpW ((((1 : Int64) - (1 : Int64)) / ((16 : Int32).toInt64)) + (1 : Int64)) ((1 : Int64) / (16 : Int64))))])) _
            refine XS.ifNo X55.here hx rfl (hb hby at_117) rfl ((if0 _ _).trans (teq ((lw_eq _ _).mpr (own_w0_16 (by decide : 0 < (1 : Int64).toInt) hc93_53))).2) ?_
            show Steps p.tables e below (T55.setTop (mkF m 120 #[.val (.long q0), .second, .val (.int p1), .val (.int (1 : Int32)), .val (.ref wC), .val (.long (16 : Int64)), .second, .val (.long (1 : Int64)), .second, .val (.long ((1 : Int64) / (16 : Int64))), .second, .val (.long ((1 : Int64) - ((1 : Int64) / (16 : Int64)) * (16 : Int64))), .second, .val (.long ((1 : Int64) / (16 : Int64))), .second] [])) _
            refine XS.iconst X55.here hx rfl (hb hby at_120) ?_
            show Steps p.tables e below (T55.setTop (mkF m 121 #[.val (.long q0), .second, .val (.int p1), .val (.int (1 : Int32)), .val (.ref wC), .val (.long (16 : Int64)), .second, .val (.long (1 : Int64)), .second, .val (.long ((1 : Int64) / (16 : Int64))), .second, .val (.long ((1 : Int64) - ((1 : Int64) / (16 : Int64)) * (16 : Int64))), .second, .val (.long ((1 : Int64) / (16 : Int64))), .second] [(.int (1 : Int32))])) _
            refine XS.goto X55.here hx rfl (pc0 := 121) (pc' := 125) rfl (hb hby at_121) (by decide) (by decide) ?_
            show Steps p.tables e below (T55.setTop (mkF m 125 #[.val (.long q0), .second, .val (.int p1), .val (.int (1 : Int32)), .val (.ref wC), .val (.long (16 : Int64)), .second, .val (.long (1 : Int64)), .second, .val (.long ((1 : Int64) / (16 : Int64))), .second, .val (.long ((1 : Int64) - ((1 : Int64) / (16 : Int64)) * (16 : Int64))), .second, .val (.long ((1 : Int64) / (16 : Int64))), .second] [(.int (1 : Int32))])) _
            exact retN X55 hx (t := .boolean) Bd.returns (by simp) (hb hby at_125) hr
          · show own_Q0 n0 _ T55.heap _
            rw [e55]
            exact ⟨rfl, N55⟩
        · obtain ⟨cq58, kq58, q58a, q58b, q58c⟩ := isOf hZ e34 P_E_wC
          obtain ⟨_, _, ⟨T57, L57, k57, n57⟩, -, X57, ⟨Lc57, hQ57, l57, y57, z57⟩, st57⟩ := X34.virtualBack hx (y := (⟨"com/example/keys_to_bits/keystobits/FilterKind", "words", "(J)J"⟩ : MethodName)) (z := (⟨"com/example/keys_to_bits/keystobits/FilterKind", "words", "(J)J"⟩ : MethodName)) hown (mvT hZ (hw _ (List.mem_of_getElem? (i := 5) rfl))) (mvT hZ (hw _ (List.mem_of_getElem? (i := 6) rfl))) (notFace_of_selects (args := #[]) (mvT hZ (hw _ (List.mem_of_getElem? (i := 21) rfl)))) (mvT hZ (hw _ (List.mem_of_getElem? (i := 21) rfl))) (mvT hZ (hw _ (List.mem_of_getElem? (i := 7) rfl))) (by decide) (backOf (W := 0) (rmW2 l Z a0 hw [] wC (1 : Int64) h0 n0 Z0 P_E_wC P_F_wC_FilterKind_bitsPerCell) hZ (hw _ (List.mem_of_getElem? (i := 9) rfl)) (hw _ (List.mem_of_getElem? (i := 1) rfl)) (by decide) (by decide)) q58a q58c (g := (mkF m 111 #[.val (.long q0), .second, .val (.int p1), .val (.int (1 : Int32)), .val (.ref wC), .val (.long (16 : Int64)), .second, .val (.long (1 : Int64)), .second, .val (.long ((1 : Int64) / (16 : Int64))), .second, .val (.long ((1 : Int64) - ((1 : Int64) / (16 : Int64)) * (16 : Int64))), .second, .val (.long (((1 : Int64) / (16 : Int64)) + (1 : Int64))), .second] [(.long (1 : Int64)), (.ref wC)])) rfl (by rw [hml]; rfl) (Steps.refl _) (argsL := [(.long (1 : Int64))]) (rest := []) (lenOf pd__J_J rfl) rfl (by show 2 * 0 + _ ≤ _; exact Nat.le_of_eq rfl) (hb hby at_111) (fun _ _ => ⟨rfl, e34, (by decide : 0 + 0 ≤ _), (by decide : 0 + 0 ≤ _)⟩)
          dsimp only [Pt.U, Pt.locs, Pt.cells, Pt.slots] at X57 l57 y57 z57 st57 hQ57
          subst l57 y57 z57
          obtain ⟨rfl, N57q, e57⟩ := hQ57
          have N57 := Fr.app N0 N57q
          obtain ⟨fs, hr, hrun, hended, hW, hsame⟩ := X57.leave (v := some (.int (1 : Int32))) (fun h => by rw [Bd.returns] at h; cases h)
          refine ⟨_, _, pre54 _ ?_, hrun, hended, _, _, rfl, ?_, ⟨_, rfl⟩, hW, hsame.mono (by decide) (by decide)⟩
          · show Steps p.tables e below (T34.setTop (mkF m 93 #[.val (.long q0), .second, .val (.int p1), .val (.int (1 : Int32)), .val (.ref wC), .val (.long (16 : Int64)), .second, .val (.long (1 : Int64)), .second, .val (.long ((1 : Int64) / (16 : Int64))), .second, .val (.long ((1 : Int64) - ((1 : Int64) / (16 : Int64)) * (16 : Int64))), .second, .unset, .unset] [(.int (lcmpW ((1 : Int64) - ((1 : Int64) / (16 : Int64)) * (16 : Int64)) (0 : Int64)))])) _
            refine XS.ifYes X34.here hx rfl (pc0 := 93) (pc' := 101) rfl (hb hby at_93) rfl ((if0 _ _).trans (feq (fun qq => hc93_53 ((lw_eq _ _).mp qq))).2) (by decide) (by decide) ?_
            show Steps p.tables e below (T34.setTop (mkF m 101 #[.val (.long q0), .second, .val (.int p1), .val (.int (1 : Int32)), .val (.ref wC), .val (.long (16 : Int64)), .second, .val (.long (1 : Int64)), .second, .val (.long ((1 : Int64) / (16 : Int64))), .second, .val (.long ((1 : Int64) - ((1 : Int64) / (16 : Int64)) * (16 : Int64))), .second, .unset, .unset] [])) _
            refine XS.lload X34.here hx rfl (hb hby at_101) rfl ?_
            show Steps p.tables e below (T34.setTop (mkF m 103 #[.val (.long q0), .second, .val (.int p1), .val (.int (1 : Int32)), .val (.ref wC), .val (.long (16 : Int64)), .second, .val (.long (1 : Int64)), .second, .val (.long ((1 : Int64) / (16 : Int64))), .second, .val (.long ((1 : Int64) - ((1 : Int64) / (16 : Int64)) * (16 : Int64))), .second, .unset, .unset] [(.long ((1 : Int64) / (16 : Int64)))])) _
            refine XS.lconst X34.here hx rfl (hb hby at_103) ?_
            show Steps p.tables e below (T34.setTop (mkF m 104 #[.val (.long q0), .second, .val (.int p1), .val (.int (1 : Int32)), .val (.ref wC), .val (.long (16 : Int64)), .second, .val (.long (1 : Int64)), .second, .val (.long ((1 : Int64) / (16 : Int64))), .second, .val (.long ((1 : Int64) - ((1 : Int64) / (16 : Int64)) * (16 : Int64))), .second, .unset, .unset] [(.long (1 : Int64)), (.long ((1 : Int64) / (16 : Int64)))])) _
            refine XS.ladd X34.here hx rfl (hb hby at_104) rfl ?_
            show Steps p.tables e below (T34.setTop (mkF m 105 #[.val (.long q0), .second, .val (.int p1), .val (.int (1 : Int32)), .val (.ref wC), .val (.long (16 : Int64)), .second, .val (.long (1 : Int64)), .second, .val (.long ((1 : Int64) / (16 : Int64))), .second, .val (.long ((1 : Int64) - ((1 : Int64) / (16 : Int64)) * (16 : Int64))), .second, .unset, .unset] [(.long (((1 : Int64) / (16 : Int64)) + (1 : Int64)))])) _
            refine XS.lstore X34.here hx rfl (hb hby at_105) rfl (l' := #[.val (.long q0), .second, .val (.int p1), .val (.int (1 : Int32)), .val (.ref wC), .val (.long (16 : Int64)), .second, .val (.long (1 : Int64)), .second, .val (.long ((1 : Int64) / (16 : Int64))), .second, .val (.long ((1 : Int64) - ((1 : Int64) / (16 : Int64)) * (16 : Int64))), .second, .val (.long (((1 : Int64) / (16 : Int64)) + (1 : Int64))), .second]) rfl ?_
            show Steps p.tables e below (T34.setTop (mkF m 107 #[.val (.long q0), .second, .val (.int p1), .val (.int (1 : Int32)), .val (.ref wC), .val (.long (16 : Int64)), .second, .val (.long (1 : Int64)), .second, .val (.long ((1 : Int64) / (16 : Int64))), .second, .val (.long ((1 : Int64) - ((1 : Int64) / (16 : Int64)) * (16 : Int64))), .second, .val (.long (((1 : Int64) / (16 : Int64)) + (1 : Int64))), .second] [])) _
            refine XS.aload X34.here hx rfl (hb hby at_107) rfl rfl ?_
            show Steps p.tables e below (T34.setTop (mkF m 109 #[.val (.long q0), .second, .val (.int p1), .val (.int (1 : Int32)), .val (.ref wC), .val (.long (16 : Int64)), .second, .val (.long (1 : Int64)), .second, .val (.long ((1 : Int64) / (16 : Int64))), .second, .val (.long ((1 : Int64) - ((1 : Int64) / (16 : Int64)) * (16 : Int64))), .second, .val (.long (((1 : Int64) / (16 : Int64)) + (1 : Int64))), .second] [(.ref wC)])) _
            refine XS.lload X34.here hx rfl (hb hby at_109) rfl ?_
            show Steps p.tables e below (T34.setTop (mkF m 111 #[.val (.long q0), .second, .val (.int p1), .val (.int (1 : Int32)), .val (.ref wC), .val (.long (16 : Int64)), .second, .val (.long (1 : Int64)), .second, .val (.long ((1 : Int64) / (16 : Int64))), .second, .val (.long ((1 : Int64) - ((1 : Int64) / (16 : Int64)) * (16 : Int64))), .second, .val (.long (((1 : Int64) / (16 : Int64)) + (1 : Int64))), .second] [(.long (1 : Int64)), (.ref wC)])) _
            refine st57.trans ?_
            show Steps p.tables e below (T57.setTop (mkF m 114 #[.val (.long q0), .second, .val (.int p1), .val (.int (1 : Int32)), .val (.ref wC), .val (.long (16 : Int64)), .second, .val (.long (1 : Int64)), .second, .val (.long ((1 : Int64) / (16 : Int64))), .second, .val (.long ((1 : Int64) - ((1 : Int64) / (16 : Int64)) * (16 : Int64))), .second, .val (.long (((1 : Int64) / (16 : Int64)) + (1 : Int64))), .second] [(.long ((((1 : Int64) - (1 : Int64)) / ((16 : Int32).toInt64)) + (1 : Int64)))])) _
            refine XS.lload X57.here hx rfl (hb hby at_114) rfl ?_
            show Steps p.tables e below (T57.setTop (mkF m 116 #[.val (.long q0), .second, .val (.int p1), .val (.int (1 : Int32)), .val (.ref wC), .val (.long (16 : Int64)), .second, .val (.long (1 : Int64)), .second, .val (.long ((1 : Int64) / (16 : Int64))), .second, .val (.long ((1 : Int64) - ((1 : Int64) / (16 : Int64)) * (16 : Int64))), .second, .val (.long (((1 : Int64) / (16 : Int64)) + (1 : Int64))), .second] [(.long (((1 : Int64) / (16 : Int64)) + (1 : Int64))), (.long ((((1 : Int64) - (1 : Int64)) / ((16 : Int32).toInt64)) + (1 : Int64)))])) _
            refine XS.lcmp X57.here hx rfl (hb hby at_116) rfl ?_
            show Steps p.tables e below (T57.setTop (mkF m 117 #[.val (.long q0), .second, .val (.int p1), .val (.int (1 : Int32)), .val (.ref wC), .val (.long (16 : Int64)), .second, .val (.long (1 : Int64)), .second, .val (.long ((1 : Int64) / (16 : Int64))), .second, .val (.long ((1 : Int64) - ((1 : Int64) / (16 : Int64)) * (16 : Int64))), .second, .val (.long (((1 : Int64) / (16 : Int64)) + (1 : Int64))), .second] [(.int (lcmpW ((((1 : Int64) - (1 : Int64)) / ((16 : Int32).toInt64)) + (1 : Int64)) (((1 : Int64) / (16 : Int64)) + (1 : Int64))))])) _
            refine XS.ifNo X57.here hx rfl (hb hby at_117) rfl ((if0 _ _).trans (teq ((lw_eq _ _).mpr (own_w1_16 (by decide : 0 < (1 : Int64).toInt) hc93_53))).2) ?_
            show Steps p.tables e below (T57.setTop (mkF m 120 #[.val (.long q0), .second, .val (.int p1), .val (.int (1 : Int32)), .val (.ref wC), .val (.long (16 : Int64)), .second, .val (.long (1 : Int64)), .second, .val (.long ((1 : Int64) / (16 : Int64))), .second, .val (.long ((1 : Int64) - ((1 : Int64) / (16 : Int64)) * (16 : Int64))), .second, .val (.long (((1 : Int64) / (16 : Int64)) + (1 : Int64))), .second] [])) _
            refine XS.iconst X57.here hx rfl (hb hby at_120) ?_
            show Steps p.tables e below (T57.setTop (mkF m 121 #[.val (.long q0), .second, .val (.int p1), .val (.int (1 : Int32)), .val (.ref wC), .val (.long (16 : Int64)), .second, .val (.long (1 : Int64)), .second, .val (.long ((1 : Int64) / (16 : Int64))), .second, .val (.long ((1 : Int64) - ((1 : Int64) / (16 : Int64)) * (16 : Int64))), .second, .val (.long (((1 : Int64) / (16 : Int64)) + (1 : Int64))), .second] [(.int (1 : Int32))])) _
            refine XS.goto X57.here hx rfl (pc0 := 121) (pc' := 125) rfl (hb hby at_121) (by decide) (by decide) ?_
            show Steps p.tables e below (T57.setTop (mkF m 125 #[.val (.long q0), .second, .val (.int p1), .val (.int (1 : Int32)), .val (.ref wC), .val (.long (16 : Int64)), .second, .val (.long (1 : Int64)), .second, .val (.long ((1 : Int64) / (16 : Int64))), .second, .val (.long ((1 : Int64) - ((1 : Int64) / (16 : Int64)) * (16 : Int64))), .second, .val (.long (((1 : Int64) / (16 : Int64)) + (1 : Int64))), .second] [(.int (1 : Int32))])) _
            exact retN X57 hx (t := .boolean) Bd.returns (by simp) (hb hby at_125) hr
          · show own_Q0 n0 _ T57.heap _
            rw [e57]
            exact ⟨rfl, N57⟩
      · have pre60 : ∀ t, Steps p.tables e below (T34.setTop (mkF m 93 #[.val (.long q0), .second, .val (.int p1), .val (.int (1 : Int32)), .val (.ref wC), .val (.long (16 : Int64)), .second, .val (.long ((q0 &&& (255 : Int64)) + (1 : Int64))), .second, .val (.long (((q0 &&& (255 : Int64)) + (1 : Int64)) / (16 : Int64))), .second, .val (.long (((q0 &&& (255 : Int64)) + (1 : Int64)) - (((q0 &&& (255 : Int64)) + (1 : Int64)) / (16 : Int64)) * (16 : Int64))), .second, .unset, .unset] [(.int (lcmpW (((q0 &&& (255 : Int64)) + (1 : Int64)) - (((q0 &&& (255 : Int64)) + (1 : Int64)) / (16 : Int64)) * (16 : Int64)) (0 : Int64)))])) t → Steps p.tables e below (s₁.setTop (entryFrame m #[(.long q0), (.int p1)] maxLocals)) t := fun t kt => pre52 t (by
            show Steps p.tables e below (T34.setTop (mkF m 69 #[.val (.long q0), .second, .val (.int p1), .val (.int (1 : Int32)), .val (.ref wC), .val (.long (16 : Int64)), .second, .val (.long ((q0 &&& (255 : Int64)) + (1 : Int64))), .second, .unset, .unset, .unset, .unset, .unset, .unset] [(.int (lcmpW ((q0 &&& (255 : Int64)) + (1 : Int64)) (0 : Int64)))])) _
            refine XS.ifYes X34.here hx rfl (pc0 := 69) (pc' := 75) rfl (hb hby at_69) rfl ((if0 _ _).trans (feq (fun qq => hc69_51 ((lw_eq _ _).mp qq))).2) (by decide) (by decide) ?_
            show Steps p.tables e below (T34.setTop (mkF m 75 #[.val (.long q0), .second, .val (.int p1), .val (.int (1 : Int32)), .val (.ref wC), .val (.long (16 : Int64)), .second, .val (.long ((q0 &&& (255 : Int64)) + (1 : Int64))), .second, .unset, .unset, .unset, .unset, .unset, .unset] [])) _
            refine XS.lload X34.here hx rfl (hb hby at_75) rfl ?_
            show Steps p.tables e below (T34.setTop (mkF m 77 #[.val (.long q0), .second, .val (.int p1), .val (.int (1 : Int32)), .val (.ref wC), .val (.long (16 : Int64)), .second, .val (.long ((q0 &&& (255 : Int64)) + (1 : Int64))), .second, .unset, .unset, .unset, .unset, .unset, .unset] [(.long ((q0 &&& (255 : Int64)) + (1 : Int64)))])) _
            refine XS.lload X34.here hx rfl (hb hby at_77) rfl ?_
            show Steps p.tables e below (T34.setTop (mkF m 79 #[.val (.long q0), .second, .val (.int p1), .val (.int (1 : Int32)), .val (.ref wC), .val (.long (16 : Int64)), .second, .val (.long ((q0 &&& (255 : Int64)) + (1 : Int64))), .second, .unset, .unset, .unset, .unset, .unset, .unset] [(.long (16 : Int64)), (.long ((q0 &&& (255 : Int64)) + (1 : Int64)))])) _
            refine XS.ldiv X34.here hx rfl (hb hby at_79) rfl (by decide : ¬ ((16 : Int64) = (0 : Int64))) ?_
            show Steps p.tables e below (T34.setTop (mkF m 80 #[.val (.long q0), .second, .val (.int p1), .val (.int (1 : Int32)), .val (.ref wC), .val (.long (16 : Int64)), .second, .val (.long ((q0 &&& (255 : Int64)) + (1 : Int64))), .second, .unset, .unset, .unset, .unset, .unset, .unset] [(.long (((q0 &&& (255 : Int64)) + (1 : Int64)) / (16 : Int64)))])) _
            refine XS.lstore X34.here hx rfl (hb hby at_80) rfl (l' := #[.val (.long q0), .second, .val (.int p1), .val (.int (1 : Int32)), .val (.ref wC), .val (.long (16 : Int64)), .second, .val (.long ((q0 &&& (255 : Int64)) + (1 : Int64))), .second, .val (.long (((q0 &&& (255 : Int64)) + (1 : Int64)) / (16 : Int64))), .second, .unset, .unset, .unset, .unset]) rfl ?_
            show Steps p.tables e below (T34.setTop (mkF m 82 #[.val (.long q0), .second, .val (.int p1), .val (.int (1 : Int32)), .val (.ref wC), .val (.long (16 : Int64)), .second, .val (.long ((q0 &&& (255 : Int64)) + (1 : Int64))), .second, .val (.long (((q0 &&& (255 : Int64)) + (1 : Int64)) / (16 : Int64))), .second, .unset, .unset, .unset, .unset] [])) _
            refine XS.lload X34.here hx rfl (hb hby at_82) rfl ?_
            show Steps p.tables e below (T34.setTop (mkF m 84 #[.val (.long q0), .second, .val (.int p1), .val (.int (1 : Int32)), .val (.ref wC), .val (.long (16 : Int64)), .second, .val (.long ((q0 &&& (255 : Int64)) + (1 : Int64))), .second, .val (.long (((q0 &&& (255 : Int64)) + (1 : Int64)) / (16 : Int64))), .second, .unset, .unset, .unset, .unset] [(.long ((q0 &&& (255 : Int64)) + (1 : Int64)))])) _
            refine XS.lload X34.here hx rfl (hb hby at_84) rfl ?_
            show Steps p.tables e below (T34.setTop (mkF m 86 #[.val (.long q0), .second, .val (.int p1), .val (.int (1 : Int32)), .val (.ref wC), .val (.long (16 : Int64)), .second, .val (.long ((q0 &&& (255 : Int64)) + (1 : Int64))), .second, .val (.long (((q0 &&& (255 : Int64)) + (1 : Int64)) / (16 : Int64))), .second, .unset, .unset, .unset, .unset] [(.long (16 : Int64)), (.long ((q0 &&& (255 : Int64)) + (1 : Int64)))])) _
            refine XS.lrem X34.here hx rfl (hb hby at_86) rfl (by decide : ¬ ((16 : Int64) = (0 : Int64))) ?_
            show Steps p.tables e below (T34.setTop (mkF m 87 #[.val (.long q0), .second, .val (.int p1), .val (.int (1 : Int32)), .val (.ref wC), .val (.long (16 : Int64)), .second, .val (.long ((q0 &&& (255 : Int64)) + (1 : Int64))), .second, .val (.long (((q0 &&& (255 : Int64)) + (1 : Int64)) / (16 : Int64))), .second, .unset, .unset, .unset, .unset] [(.long (((q0 &&& (255 : Int64)) + (1 : Int64)) - (((q0 &&& (255 : Int64)) + (1 : Int64)) / (16 : Int64)) * (16 : Int64)))])) _
            refine XS.lstore X34.here hx rfl (hb hby at_87) rfl (l' := #[.val (.long q0), .second, .val (.int p1), .val (.int (1 : Int32)), .val (.ref wC), .val (.long (16 : Int64)), .second, .val (.long ((q0 &&& (255 : Int64)) + (1 : Int64))), .second, .val (.long (((q0 &&& (255 : Int64)) + (1 : Int64)) / (16 : Int64))), .second, .val (.long (((q0 &&& (255 : Int64)) + (1 : Int64)) - (((q0 &&& (255 : Int64)) + (1 : Int64)) / (16 : Int64)) * (16 : Int64))), .second, .unset, .unset]) rfl ?_
            show Steps p.tables e below (T34.setTop (mkF m 89 #[.val (.long q0), .second, .val (.int p1), .val (.int (1 : Int32)), .val (.ref wC), .val (.long (16 : Int64)), .second, .val (.long ((q0 &&& (255 : Int64)) + (1 : Int64))), .second, .val (.long (((q0 &&& (255 : Int64)) + (1 : Int64)) / (16 : Int64))), .second, .val (.long (((q0 &&& (255 : Int64)) + (1 : Int64)) - (((q0 &&& (255 : Int64)) + (1 : Int64)) / (16 : Int64)) * (16 : Int64))), .second, .unset, .unset] [])) _
            refine XS.lload X34.here hx rfl (hb hby at_89) rfl ?_
            show Steps p.tables e below (T34.setTop (mkF m 91 #[.val (.long q0), .second, .val (.int p1), .val (.int (1 : Int32)), .val (.ref wC), .val (.long (16 : Int64)), .second, .val (.long ((q0 &&& (255 : Int64)) + (1 : Int64))), .second, .val (.long (((q0 &&& (255 : Int64)) + (1 : Int64)) / (16 : Int64))), .second, .val (.long (((q0 &&& (255 : Int64)) + (1 : Int64)) - (((q0 &&& (255 : Int64)) + (1 : Int64)) / (16 : Int64)) * (16 : Int64))), .second, .unset, .unset] [(.long (((q0 &&& (255 : Int64)) + (1 : Int64)) - (((q0 &&& (255 : Int64)) + (1 : Int64)) / (16 : Int64)) * (16 : Int64)))])) _
            refine XS.lconst X34.here hx rfl (hb hby at_91) ?_
            show Steps p.tables e below (T34.setTop (mkF m 92 #[.val (.long q0), .second, .val (.int p1), .val (.int (1 : Int32)), .val (.ref wC), .val (.long (16 : Int64)), .second, .val (.long ((q0 &&& (255 : Int64)) + (1 : Int64))), .second, .val (.long (((q0 &&& (255 : Int64)) + (1 : Int64)) / (16 : Int64))), .second, .val (.long (((q0 &&& (255 : Int64)) + (1 : Int64)) - (((q0 &&& (255 : Int64)) + (1 : Int64)) / (16 : Int64)) * (16 : Int64))), .second, .unset, .unset] [(.long (0 : Int64)), (.long (((q0 &&& (255 : Int64)) + (1 : Int64)) - (((q0 &&& (255 : Int64)) + (1 : Int64)) / (16 : Int64)) * (16 : Int64)))])) _
            refine XS.lcmp X34.here hx rfl (hb hby at_92) rfl ?_
            exact kt)
        by_cases hc93_59 : (((q0 &&& (255 : Int64)) + (1 : Int64)) - (((q0 &&& (255 : Int64)) + (1 : Int64)) / (16 : Int64)) * (16 : Int64)) = (0 : Int64)
        · obtain ⟨cq62, kq62, q62a, q62b, q62c⟩ := isOf hZ e34 P_E_wC
          obtain ⟨_, _, ⟨T61, L61, k61, n61⟩, -, X61, ⟨Lc61, hQ61, l61, y61, z61⟩, st61⟩ := X34.virtualBack hx (y := (⟨"com/example/keys_to_bits/keystobits/FilterKind", "words", "(J)J"⟩ : MethodName)) (z := (⟨"com/example/keys_to_bits/keystobits/FilterKind", "words", "(J)J"⟩ : MethodName)) hown (mvT hZ (hw _ (List.mem_of_getElem? (i := 5) rfl))) (mvT hZ (hw _ (List.mem_of_getElem? (i := 6) rfl))) (notFace_of_selects (args := #[]) (mvT hZ (hw _ (List.mem_of_getElem? (i := 21) rfl)))) (mvT hZ (hw _ (List.mem_of_getElem? (i := 21) rfl))) (mvT hZ (hw _ (List.mem_of_getElem? (i := 7) rfl))) (by decide) (backOf (W := 0) (rmW2 l Z a0 hw [] wC ((q0 &&& (255 : Int64)) + (1 : Int64)) h0 n0 Z0 P_E_wC P_F_wC_FilterKind_bitsPerCell) hZ (hw _ (List.mem_of_getElem? (i := 9) rfl)) (hw _ (List.mem_of_getElem? (i := 1) rfl)) (by decide) (by decide)) q62a q62c (g := (mkF m 111 #[.val (.long q0), .second, .val (.int p1), .val (.int (1 : Int32)), .val (.ref wC), .val (.long (16 : Int64)), .second, .val (.long ((q0 &&& (255 : Int64)) + (1 : Int64))), .second, .val (.long (((q0 &&& (255 : Int64)) + (1 : Int64)) / (16 : Int64))), .second, .val (.long (((q0 &&& (255 : Int64)) + (1 : Int64)) - (((q0 &&& (255 : Int64)) + (1 : Int64)) / (16 : Int64)) * (16 : Int64))), .second, .val (.long (((q0 &&& (255 : Int64)) + (1 : Int64)) / (16 : Int64))), .second] [(.long ((q0 &&& (255 : Int64)) + (1 : Int64))), (.ref wC)])) rfl (by rw [hml]; rfl) (Steps.refl _) (argsL := [(.long ((q0 &&& (255 : Int64)) + (1 : Int64)))]) (rest := []) (lenOf pd__J_J rfl) rfl (by show 2 * 0 + _ ≤ _; exact Nat.le_of_eq rfl) (hb hby at_111) (fun _ _ => ⟨rfl, e34, (by decide : 0 + 0 ≤ _), (by decide : 0 + 0 ≤ _)⟩)
          dsimp only [Pt.U, Pt.locs, Pt.cells, Pt.slots] at X61 l61 y61 z61 st61 hQ61
          subst l61 y61 z61
          obtain ⟨rfl, N61q, e61⟩ := hQ61
          have N61 := Fr.app N0 N61q
          obtain ⟨fs, hr, hrun, hended, hW, hsame⟩ := X61.leave (v := some (.int (1 : Int32))) (fun h => by rw [Bd.returns] at h; cases h)
          refine ⟨_, _, pre60 _ ?_, hrun, hended, _, _, rfl, ?_, ⟨_, rfl⟩, hW, hsame.mono (by decide) (by decide)⟩
          · show Steps p.tables e below (T34.setTop (mkF m 93 #[.val (.long q0), .second, .val (.int p1), .val (.int (1 : Int32)), .val (.ref wC), .val (.long (16 : Int64)), .second, .val (.long ((q0 &&& (255 : Int64)) + (1 : Int64))), .second, .val (.long (((q0 &&& (255 : Int64)) + (1 : Int64)) / (16 : Int64))), .second, .val (.long (((q0 &&& (255 : Int64)) + (1 : Int64)) - (((q0 &&& (255 : Int64)) + (1 : Int64)) / (16 : Int64)) * (16 : Int64))), .second, .unset, .unset] [(.int (lcmpW (((q0 &&& (255 : Int64)) + (1 : Int64)) - (((q0 &&& (255 : Int64)) + (1 : Int64)) / (16 : Int64)) * (16 : Int64)) (0 : Int64)))])) _
            refine XS.ifNo X34.here hx rfl (hb hby at_93) rfl ((if0 _ _).trans (teq ((lw_eq _ _).mpr hc93_59)).2) ?_
            show Steps p.tables e below (T34.setTop (mkF m 96 #[.val (.long q0), .second, .val (.int p1), .val (.int (1 : Int32)), .val (.ref wC), .val (.long (16 : Int64)), .second, .val (.long ((q0 &&& (255 : Int64)) + (1 : Int64))), .second, .val (.long (((q0 &&& (255 : Int64)) + (1 : Int64)) / (16 : Int64))), .second, .val (.long (((q0 &&& (255 : Int64)) + (1 : Int64)) - (((q0 &&& (255 : Int64)) + (1 : Int64)) / (16 : Int64)) * (16 : Int64))), .second, .unset, .unset] [])) _
            refine XS.lload X34.here hx rfl (hb hby at_96) rfl ?_
            show Steps p.tables e below (T34.setTop (mkF m 98 #[.val (.long q0), .second, .val (.int p1), .val (.int (1 : Int32)), .val (.ref wC), .val (.long (16 : Int64)), .second, .val (.long ((q0 &&& (255 : Int64)) + (1 : Int64))), .second, .val (.long (((q0 &&& (255 : Int64)) + (1 : Int64)) / (16 : Int64))), .second, .val (.long (((q0 &&& (255 : Int64)) + (1 : Int64)) - (((q0 &&& (255 : Int64)) + (1 : Int64)) / (16 : Int64)) * (16 : Int64))), .second, .unset, .unset] [(.long (((q0 &&& (255 : Int64)) + (1 : Int64)) / (16 : Int64)))])) _
            refine XS.goto X34.here hx rfl (pc0 := 98) (pc' := 105) rfl (hb hby at_98) (by decide) (by decide) ?_
            show Steps p.tables e below (T34.setTop (mkF m 105 #[.val (.long q0), .second, .val (.int p1), .val (.int (1 : Int32)), .val (.ref wC), .val (.long (16 : Int64)), .second, .val (.long ((q0 &&& (255 : Int64)) + (1 : Int64))), .second, .val (.long (((q0 &&& (255 : Int64)) + (1 : Int64)) / (16 : Int64))), .second, .val (.long (((q0 &&& (255 : Int64)) + (1 : Int64)) - (((q0 &&& (255 : Int64)) + (1 : Int64)) / (16 : Int64)) * (16 : Int64))), .second, .unset, .unset] [(.long (((q0 &&& (255 : Int64)) + (1 : Int64)) / (16 : Int64)))])) _
            refine XS.lstore X34.here hx rfl (hb hby at_105) rfl (l' := #[.val (.long q0), .second, .val (.int p1), .val (.int (1 : Int32)), .val (.ref wC), .val (.long (16 : Int64)), .second, .val (.long ((q0 &&& (255 : Int64)) + (1 : Int64))), .second, .val (.long (((q0 &&& (255 : Int64)) + (1 : Int64)) / (16 : Int64))), .second, .val (.long (((q0 &&& (255 : Int64)) + (1 : Int64)) - (((q0 &&& (255 : Int64)) + (1 : Int64)) / (16 : Int64)) * (16 : Int64))), .second, .val (.long (((q0 &&& (255 : Int64)) + (1 : Int64)) / (16 : Int64))), .second]) rfl ?_
            show Steps p.tables e below (T34.setTop (mkF m 107 #[.val (.long q0), .second, .val (.int p1), .val (.int (1 : Int32)), .val (.ref wC), .val (.long (16 : Int64)), .second, .val (.long ((q0 &&& (255 : Int64)) + (1 : Int64))), .second, .val (.long (((q0 &&& (255 : Int64)) + (1 : Int64)) / (16 : Int64))), .second, .val (.long (((q0 &&& (255 : Int64)) + (1 : Int64)) - (((q0 &&& (255 : Int64)) + (1 : Int64)) / (16 : Int64)) * (16 : Int64))), .second, .val (.long (((q0 &&& (255 : Int64)) + (1 : Int64)) / (16 : Int64))), .second] [])) _
            refine XS.aload X34.here hx rfl (hb hby at_107) rfl rfl ?_
            show Steps p.tables e below (T34.setTop (mkF m 109 #[.val (.long q0), .second, .val (.int p1), .val (.int (1 : Int32)), .val (.ref wC), .val (.long (16 : Int64)), .second, .val (.long ((q0 &&& (255 : Int64)) + (1 : Int64))), .second, .val (.long (((q0 &&& (255 : Int64)) + (1 : Int64)) / (16 : Int64))), .second, .val (.long (((q0 &&& (255 : Int64)) + (1 : Int64)) - (((q0 &&& (255 : Int64)) + (1 : Int64)) / (16 : Int64)) * (16 : Int64))), .second, .val (.long (((q0 &&& (255 : Int64)) + (1 : Int64)) / (16 : Int64))), .second] [(.ref wC)])) _
            refine XS.lload X34.here hx rfl (hb hby at_109) rfl ?_
            show Steps p.tables e below (T34.setTop (mkF m 111 #[.val (.long q0), .second, .val (.int p1), .val (.int (1 : Int32)), .val (.ref wC), .val (.long (16 : Int64)), .second, .val (.long ((q0 &&& (255 : Int64)) + (1 : Int64))), .second, .val (.long (((q0 &&& (255 : Int64)) + (1 : Int64)) / (16 : Int64))), .second, .val (.long (((q0 &&& (255 : Int64)) + (1 : Int64)) - (((q0 &&& (255 : Int64)) + (1 : Int64)) / (16 : Int64)) * (16 : Int64))), .second, .val (.long (((q0 &&& (255 : Int64)) + (1 : Int64)) / (16 : Int64))), .second] [(.long ((q0 &&& (255 : Int64)) + (1 : Int64))), (.ref wC)])) _
            refine st61.trans ?_
            show Steps p.tables e below (T61.setTop (mkF m 114 #[.val (.long q0), .second, .val (.int p1), .val (.int (1 : Int32)), .val (.ref wC), .val (.long (16 : Int64)), .second, .val (.long ((q0 &&& (255 : Int64)) + (1 : Int64))), .second, .val (.long (((q0 &&& (255 : Int64)) + (1 : Int64)) / (16 : Int64))), .second, .val (.long (((q0 &&& (255 : Int64)) + (1 : Int64)) - (((q0 &&& (255 : Int64)) + (1 : Int64)) / (16 : Int64)) * (16 : Int64))), .second, .val (.long (((q0 &&& (255 : Int64)) + (1 : Int64)) / (16 : Int64))), .second] [(.long (((((q0 &&& (255 : Int64)) + (1 : Int64)) - (1 : Int64)) / ((16 : Int32).toInt64)) + (1 : Int64)))])) _
            refine XS.lload X61.here hx rfl (hb hby at_114) rfl ?_
            show Steps p.tables e below (T61.setTop (mkF m 116 #[.val (.long q0), .second, .val (.int p1), .val (.int (1 : Int32)), .val (.ref wC), .val (.long (16 : Int64)), .second, .val (.long ((q0 &&& (255 : Int64)) + (1 : Int64))), .second, .val (.long (((q0 &&& (255 : Int64)) + (1 : Int64)) / (16 : Int64))), .second, .val (.long (((q0 &&& (255 : Int64)) + (1 : Int64)) - (((q0 &&& (255 : Int64)) + (1 : Int64)) / (16 : Int64)) * (16 : Int64))), .second, .val (.long (((q0 &&& (255 : Int64)) + (1 : Int64)) / (16 : Int64))), .second] [(.long (((q0 &&& (255 : Int64)) + (1 : Int64)) / (16 : Int64))), (.long (((((q0 &&& (255 : Int64)) + (1 : Int64)) - (1 : Int64)) / ((16 : Int32).toInt64)) + (1 : Int64)))])) _
            refine XS.lcmp X61.here hx rfl (hb hby at_116) rfl ?_
            show Steps p.tables e below (T61.setTop (mkF m 117 #[.val (.long q0), .second, .val (.int p1), .val (.int (1 : Int32)), .val (.ref wC), .val (.long (16 : Int64)), .second, .val (.long ((q0 &&& (255 : Int64)) + (1 : Int64))), .second, .val (.long (((q0 &&& (255 : Int64)) + (1 : Int64)) / (16 : Int64))), .second, .val (.long (((q0 &&& (255 : Int64)) + (1 : Int64)) - (((q0 &&& (255 : Int64)) + (1 : Int64)) / (16 : Int64)) * (16 : Int64))), .second, .val (.long (((q0 &&& (255 : Int64)) + (1 : Int64)) / (16 : Int64))), .second] [(.int (lcmpW (((((q0 &&& (255 : Int64)) + (1 : Int64)) - (1 : Int64)) / ((16 : Int32).toInt64)) + (1 : Int64)) (((q0 &&& (255 : Int64)) + (1 : Int64)) / (16 : Int64))))])) _
            refine XS.ifNo X61.here hx rfl (hb hby at_117) rfl ((if0 _ _).trans (teq ((lw_eq _ _).mpr (own_w0_16 (own_cp1 q0) hc93_59))).2) ?_
            show Steps p.tables e below (T61.setTop (mkF m 120 #[.val (.long q0), .second, .val (.int p1), .val (.int (1 : Int32)), .val (.ref wC), .val (.long (16 : Int64)), .second, .val (.long ((q0 &&& (255 : Int64)) + (1 : Int64))), .second, .val (.long (((q0 &&& (255 : Int64)) + (1 : Int64)) / (16 : Int64))), .second, .val (.long (((q0 &&& (255 : Int64)) + (1 : Int64)) - (((q0 &&& (255 : Int64)) + (1 : Int64)) / (16 : Int64)) * (16 : Int64))), .second, .val (.long (((q0 &&& (255 : Int64)) + (1 : Int64)) / (16 : Int64))), .second] [])) _
            refine XS.iconst X61.here hx rfl (hb hby at_120) ?_
            show Steps p.tables e below (T61.setTop (mkF m 121 #[.val (.long q0), .second, .val (.int p1), .val (.int (1 : Int32)), .val (.ref wC), .val (.long (16 : Int64)), .second, .val (.long ((q0 &&& (255 : Int64)) + (1 : Int64))), .second, .val (.long (((q0 &&& (255 : Int64)) + (1 : Int64)) / (16 : Int64))), .second, .val (.long (((q0 &&& (255 : Int64)) + (1 : Int64)) - (((q0 &&& (255 : Int64)) + (1 : Int64)) / (16 : Int64)) * (16 : Int64))), .second, .val (.long (((q0 &&& (255 : Int64)) + (1 : Int64)) / (16 : Int64))), .second] [(.int (1 : Int32))])) _
            refine XS.goto X61.here hx rfl (pc0 := 121) (pc' := 125) rfl (hb hby at_121) (by decide) (by decide) ?_
            show Steps p.tables e below (T61.setTop (mkF m 125 #[.val (.long q0), .second, .val (.int p1), .val (.int (1 : Int32)), .val (.ref wC), .val (.long (16 : Int64)), .second, .val (.long ((q0 &&& (255 : Int64)) + (1 : Int64))), .second, .val (.long (((q0 &&& (255 : Int64)) + (1 : Int64)) / (16 : Int64))), .second, .val (.long (((q0 &&& (255 : Int64)) + (1 : Int64)) - (((q0 &&& (255 : Int64)) + (1 : Int64)) / (16 : Int64)) * (16 : Int64))), .second, .val (.long (((q0 &&& (255 : Int64)) + (1 : Int64)) / (16 : Int64))), .second] [(.int (1 : Int32))])) _
            exact retN X61 hx (t := .boolean) Bd.returns (by simp) (hb hby at_125) hr
          · show own_Q0 n0 _ T61.heap _
            rw [e61]
            exact ⟨rfl, N61⟩
        · obtain ⟨cq64, kq64, q64a, q64b, q64c⟩ := isOf hZ e34 P_E_wC
          obtain ⟨_, _, ⟨T63, L63, k63, n63⟩, -, X63, ⟨Lc63, hQ63, l63, y63, z63⟩, st63⟩ := X34.virtualBack hx (y := (⟨"com/example/keys_to_bits/keystobits/FilterKind", "words", "(J)J"⟩ : MethodName)) (z := (⟨"com/example/keys_to_bits/keystobits/FilterKind", "words", "(J)J"⟩ : MethodName)) hown (mvT hZ (hw _ (List.mem_of_getElem? (i := 5) rfl))) (mvT hZ (hw _ (List.mem_of_getElem? (i := 6) rfl))) (notFace_of_selects (args := #[]) (mvT hZ (hw _ (List.mem_of_getElem? (i := 21) rfl)))) (mvT hZ (hw _ (List.mem_of_getElem? (i := 21) rfl))) (mvT hZ (hw _ (List.mem_of_getElem? (i := 7) rfl))) (by decide) (backOf (W := 0) (rmW2 l Z a0 hw [] wC ((q0 &&& (255 : Int64)) + (1 : Int64)) h0 n0 Z0 P_E_wC P_F_wC_FilterKind_bitsPerCell) hZ (hw _ (List.mem_of_getElem? (i := 9) rfl)) (hw _ (List.mem_of_getElem? (i := 1) rfl)) (by decide) (by decide)) q64a q64c (g := (mkF m 111 #[.val (.long q0), .second, .val (.int p1), .val (.int (1 : Int32)), .val (.ref wC), .val (.long (16 : Int64)), .second, .val (.long ((q0 &&& (255 : Int64)) + (1 : Int64))), .second, .val (.long (((q0 &&& (255 : Int64)) + (1 : Int64)) / (16 : Int64))), .second, .val (.long (((q0 &&& (255 : Int64)) + (1 : Int64)) - (((q0 &&& (255 : Int64)) + (1 : Int64)) / (16 : Int64)) * (16 : Int64))), .second, .val (.long ((((q0 &&& (255 : Int64)) + (1 : Int64)) / (16 : Int64)) + (1 : Int64))), .second] [(.long ((q0 &&& (255 : Int64)) + (1 : Int64))), (.ref wC)])) rfl (by rw [hml]; rfl) (Steps.refl _) (argsL := [(.long ((q0 &&& (255 : Int64)) + (1 : Int64)))]) (rest := []) (lenOf pd__J_J rfl) rfl (by show 2 * 0 + _ ≤ _; exact Nat.le_of_eq rfl) (hb hby at_111) (fun _ _ => ⟨rfl, e34, (by decide : 0 + 0 ≤ _), (by decide : 0 + 0 ≤ _)⟩)
          dsimp only [Pt.U, Pt.locs, Pt.cells, Pt.slots] at X63 l63 y63 z63 st63 hQ63
          subst l63 y63 z63
          obtain ⟨rfl, N63q, e63⟩ := hQ63
          have N63 := Fr.app N0 N63q
          obtain ⟨fs, hr, hrun, hended, hW, hsame⟩ := X63.leave (v := some (.int (1 : Int32))) (fun h => by rw [Bd.returns] at h; cases h)
          refine ⟨_, _, pre60 _ ?_, hrun, hended, _, _, rfl, ?_, ⟨_, rfl⟩, hW, hsame.mono (by decide) (by decide)⟩
          · show Steps p.tables e below (T34.setTop (mkF m 93 #[.val (.long q0), .second, .val (.int p1), .val (.int (1 : Int32)), .val (.ref wC), .val (.long (16 : Int64)), .second, .val (.long ((q0 &&& (255 : Int64)) + (1 : Int64))), .second, .val (.long (((q0 &&& (255 : Int64)) + (1 : Int64)) / (16 : Int64))), .second, .val (.long (((q0 &&& (255 : Int64)) + (1 : Int64)) - (((q0 &&& (255 : Int64)) + (1 : Int64)) / (16 : Int64)) * (16 : Int64))), .second, .unset, .unset] [(.int (lcmpW (((q0 &&& (255 : Int64)) + (1 : Int64)) - (((q0 &&& (255 : Int64)) + (1 : Int64)) / (16 : Int64)) * (16 : Int64)) (0 : Int64)))])) _
            refine XS.ifYes X34.here hx rfl (pc0 := 93) (pc' := 101) rfl (hb hby at_93) rfl ((if0 _ _).trans (feq (fun qq => hc93_59 ((lw_eq _ _).mp qq))).2) (by decide) (by decide) ?_
            show Steps p.tables e below (T34.setTop (mkF m 101 #[.val (.long q0), .second, .val (.int p1), .val (.int (1 : Int32)), .val (.ref wC), .val (.long (16 : Int64)), .second, .val (.long ((q0 &&& (255 : Int64)) + (1 : Int64))), .second, .val (.long (((q0 &&& (255 : Int64)) + (1 : Int64)) / (16 : Int64))), .second, .val (.long (((q0 &&& (255 : Int64)) + (1 : Int64)) - (((q0 &&& (255 : Int64)) + (1 : Int64)) / (16 : Int64)) * (16 : Int64))), .second, .unset, .unset] [])) _
            refine XS.lload X34.here hx rfl (hb hby at_101) rfl ?_
            show Steps p.tables e below (T34.setTop (mkF m 103 #[.val (.long q0), .second, .val (.int p1), .val (.int (1 : Int32)), .val (.ref wC), .val (.long (16 : Int64)), .second, .val (.long ((q0 &&& (255 : Int64)) + (1 : Int64))), .second, .val (.long (((q0 &&& (255 : Int64)) + (1 : Int64)) / (16 : Int64))), .second, .val (.long (((q0 &&& (255 : Int64)) + (1 : Int64)) - (((q0 &&& (255 : Int64)) + (1 : Int64)) / (16 : Int64)) * (16 : Int64))), .second, .unset, .unset] [(.long (((q0 &&& (255 : Int64)) + (1 : Int64)) / (16 : Int64)))])) _
            refine XS.lconst X34.here hx rfl (hb hby at_103) ?_
            show Steps p.tables e below (T34.setTop (mkF m 104 #[.val (.long q0), .second, .val (.int p1), .val (.int (1 : Int32)), .val (.ref wC), .val (.long (16 : Int64)), .second, .val (.long ((q0 &&& (255 : Int64)) + (1 : Int64))), .second, .val (.long (((q0 &&& (255 : Int64)) + (1 : Int64)) / (16 : Int64))), .second, .val (.long (((q0 &&& (255 : Int64)) + (1 : Int64)) - (((q0 &&& (255 : Int64)) + (1 : Int64)) / (16 : Int64)) * (16 : Int64))), .second, .unset, .unset] [(.long (1 : Int64)), (.long (((q0 &&& (255 : Int64)) + (1 : Int64)) / (16 : Int64)))])) _
            refine XS.ladd X34.here hx rfl (hb hby at_104) rfl ?_
            show Steps p.tables e below (T34.setTop (mkF m 105 #[.val (.long q0), .second, .val (.int p1), .val (.int (1 : Int32)), .val (.ref wC), .val (.long (16 : Int64)), .second, .val (.long ((q0 &&& (255 : Int64)) + (1 : Int64))), .second, .val (.long (((q0 &&& (255 : Int64)) + (1 : Int64)) / (16 : Int64))), .second, .val (.long (((q0 &&& (255 : Int64)) + (1 : Int64)) - (((q0 &&& (255 : Int64)) + (1 : Int64)) / (16 : Int64)) * (16 : Int64))), .second, .unset, .unset] [(.long ((((q0 &&& (255 : Int64)) + (1 : Int64)) / (16 : Int64)) + (1 : Int64)))])) _
            refine XS.lstore X34.here hx rfl (hb hby at_105) rfl (l' := #[.val (.long q0), .second, .val (.int p1), .val (.int (1 : Int32)), .val (.ref wC), .val (.long (16 : Int64)), .second, .val (.long ((q0 &&& (255 : Int64)) + (1 : Int64))), .second, .val (.long (((q0 &&& (255 : Int64)) + (1 : Int64)) / (16 : Int64))), .second, .val (.long (((q0 &&& (255 : Int64)) + (1 : Int64)) - (((q0 &&& (255 : Int64)) + (1 : Int64)) / (16 : Int64)) * (16 : Int64))), .second, .val (.long ((((q0 &&& (255 : Int64)) + (1 : Int64)) / (16 : Int64)) + (1 : Int64))), .second]) rfl ?_
            show Steps p.tables e below (T34.setTop (mkF m 107 #[.val (.long q0), .second, .val (.int p1), .val (.int (1 : Int32)), .val (.ref wC), .val (.long (16 : Int64)), .second, .val (.long ((q0 &&& (255 : Int64)) + (1 : Int64))), .second, .val (.long (((q0 &&& (255 : Int64)) + (1 : Int64)) / (16 : Int64))), .second, .val (.long (((q0 &&& (255 : Int64)) + (1 : Int64)) - (((q0 &&& (255 : Int64)) + (1 : Int64)) / (16 : Int64)) * (16 : Int64))), .second, .val (.long ((((q0 &&& (255 : Int64)) + (1 : Int64)) / (16 : Int64)) + (1 : Int64))), .second] [])) _
            refine XS.aload X34.here hx rfl (hb hby at_107) rfl rfl ?_
            show Steps p.tables e below (T34.setTop (mkF m 109 #[.val (.long q0), .second, .val (.int p1), .val (.int (1 : Int32)), .val (.ref wC), .val (.long (16 : Int64)), .second, .val (.long ((q0 &&& (255 : Int64)) + (1 : Int64))), .second, .val (.long (((q0 &&& (255 : Int64)) + (1 : Int64)) / (16 : Int64))), .second, .val (.long (((q0 &&& (255 : Int64)) + (1 : Int64)) - (((q0 &&& (255 : Int64)) + (1 : Int64)) / (16 : Int64)) * (16 : Int64))), .second, .val (.long ((((q0 &&& (255 : Int64)) + (1 : Int64)) / (16 : Int64)) + (1 : Int64))), .second] [(.ref wC)])) _
            refine XS.lload X34.here hx rfl (hb hby at_109) rfl ?_
            show Steps p.tables e below (T34.setTop (mkF m 111 #[.val (.long q0), .second, .val (.int p1), .val (.int (1 : Int32)), .val (.ref wC), .val (.long (16 : Int64)), .second, .val (.long ((q0 &&& (255 : Int64)) + (1 : Int64))), .second, .val (.long (((q0 &&& (255 : Int64)) + (1 : Int64)) / (16 : Int64))), .second, .val (.long (((q0 &&& (255 : Int64)) + (1 : Int64)) - (((q0 &&& (255 : Int64)) + (1 : Int64)) / (16 : Int64)) * (16 : Int64))), .second, .val (.long ((((q0 &&& (255 : Int64)) + (1 : Int64)) / (16 : Int64)) + (1 : Int64))), .second] [(.long ((q0 &&& (255 : Int64)) + (1 : Int64))), (.ref wC)])) _
            refine st63.trans ?_
            show Steps p.tables e below (T63.setTop (mkF m 114 #[.val (.long q0), .second, .val (.int p1), .val (.int (1 : Int32)), .val (.ref wC), .val (.long (16 : Int64)), .second, .val (.long ((q0 &&& (255 : Int64)) + (1 : Int64))), .second, .val (.long (((q0 &&& (255 : Int64)) + (1 : Int64)) / (16 : Int64))), .second, .val (.long (((q0 &&& (255 : Int64)) + (1 : Int64)) - (((q0 &&& (255 : Int64)) + (1 : Int64)) / (16 : Int64)) * (16 : Int64))), .second, .val (.long ((((q0 &&& (255 : Int64)) + (1 : Int64)) / (16 : Int64)) + (1 : Int64))), .second] [(.long (((((q0 &&& (255 : Int64)) + (1 : Int64)) - (1 : Int64)) / ((16 : Int32).toInt64)) + (1 : Int64)))])) _
            refine XS.lload X63.here hx rfl (hb hby at_114) rfl ?_
            show Steps p.tables e below (T63.setTop (mkF m 116 #[.val (.long q0), .second, .val (.int p1), .val (.int (1 : Int32)), .val (.ref wC), .val (.long (16 : Int64)), .second, .val (.long ((q0 &&& (255 : Int64)) + (1 : Int64))), .second, .val (.long (((q0 &&& (255 : Int64)) + (1 : Int64)) / (16 : Int64))), .second, .val (.long (((q0 &&& (255 : Int64)) + (1 : Int64)) - (((q0 &&& (255 : Int64)) + (1 : Int64)) / (16 : Int64)) * (16 : Int64))), .second, .val (.long ((((q0 &&& (255 : Int64)) + (1 : Int64)) / (16 : Int64)) + (1 : Int64))), .second] [(.long ((((q0 &&& (255 : Int64)) + (1 : Int64)) / (16 : Int64)) + (1 : Int64))), (.long (((((q0 &&& (255 : Int64)) + (1 : Int64)) - (1 : Int64)) / ((16 : Int32).toInt64)) + (1 : Int64)))])) _
            refine XS.lcmp X63.here hx rfl (hb hby at_116) rfl ?_
            show Steps p.tables e below (T63.setTop (mkF m 117 #[.val (.long q0), .second, .val (.int p1), .val (.int (1 : Int32)), .val (.ref wC), .val (.long (16 : Int64)), .second, .val (.long ((q0 &&& (255 : Int64)) + (1 : Int64))), .second, .val (.long (((q0 &&& (255 : Int64)) + (1 : Int64)) / (16 : Int64))), .second, .val (.long (((q0 &&& (255 : Int64)) + (1 : Int64)) - (((q0 &&& (255 : Int64)) + (1 : Int64)) / (16 : Int64)) * (16 : Int64))), .second, .val (.long ((((q0 &&& (255 : Int64)) + (1 : Int64)) / (16 : Int64)) + (1 : Int64))), .second] [(.int (lcmpW (((((q0 &&& (255 : Int64)) + (1 : Int64)) - (1 : Int64)) / ((16 : Int32).toInt64)) + (1 : Int64)) ((((q0 &&& (255 : Int64)) + (1 : Int64)) / (16 : Int64)) + (1 : Int64))))])) _
            refine XS.ifNo X63.here hx rfl (hb hby at_117) rfl ((if0 _ _).trans (teq ((lw_eq _ _).mpr (own_w1_16 (own_cp1 q0) hc93_59))).2) ?_
            show Steps p.tables e below (T63.setTop (mkF m 120 #[.val (.long q0), .second, .val (.int p1), .val (.int (1 : Int32)), .val (.ref wC), .val (.long (16 : Int64)), .second, .val (.long ((q0 &&& (255 : Int64)) + (1 : Int64))), .second, .val (.long (((q0 &&& (255 : Int64)) + (1 : Int64)) / (16 : Int64))), .second, .val (.long (((q0 &&& (255 : Int64)) + (1 : Int64)) - (((q0 &&& (255 : Int64)) + (1 : Int64)) / (16 : Int64)) * (16 : Int64))), .second, .val (.long ((((q0 &&& (255 : Int64)) + (1 : Int64)) / (16 : Int64)) + (1 : Int64))), .second] [])) _
            refine XS.iconst X63.here hx rfl (hb hby at_120) ?_
            show Steps p.tables e below (T63.setTop (mkF m 121 #[.val (.long q0), .second, .val (.int p1), .val (.int (1 : Int32)), .val (.ref wC), .val (.long (16 : Int64)), .second, .val (.long ((q0 &&& (255 : Int64)) + (1 : Int64))), .second, .val (.long (((q0 &&& (255 : Int64)) + (1 : Int64)) / (16 : Int64))), .second, .val (.long (((q0 &&& (255 : Int64)) + (1 : Int64)) - (((q0 &&& (255 : Int64)) + (1 : Int64)) / (16 : Int64)) * (16 : Int64))), .second, .val (.long ((((q0 &&& (255 : Int64)) + (1 : Int64)) / (16 : Int64)) + (1 : Int64))), .second] [(.int (1 : Int32))])) _
            refine XS.goto X63.here hx rfl (pc0 := 121) (pc' := 125) rfl (hb hby at_121) (by decide) (by decide) ?_
            show Steps p.tables e below (T63.setTop (mkF m 125 #[.val (.long q0), .second, .val (.int p1), .val (.int (1 : Int32)), .val (.ref wC), .val (.long (16 : Int64)), .second, .val (.long ((q0 &&& (255 : Int64)) + (1 : Int64))), .second, .val (.long (((q0 &&& (255 : Int64)) + (1 : Int64)) / (16 : Int64))), .second, .val (.long (((q0 &&& (255 : Int64)) + (1 : Int64)) - (((q0 &&& (255 : Int64)) + (1 : Int64)) / (16 : Int64)) * (16 : Int64))), .second, .val (.long ((((q0 &&& (255 : Int64)) + (1 : Int64)) / (16 : Int64)) + (1 : Int64))), .second] [(.int (1 : Int32))])) _
            exact retN X63 hx (t := .boolean) Bd.returns (by simp) (hb hby at_125) hr
          · show own_Q0 n0 _ T63.heap _
            rw [e63]
            exact ⟨rfl, N63⟩

set_option maxRecDepth 65536 in
set_option maxHeartbeats 40000000 in
theorem comes_1 {Post : Tables → Env → Array Value → State → Outcome → State → Prop} (hpost : ∀ tb e args s v u, (limb_1_1.after args s (.returned v) u = true ∧ limb_1_2.after args s (.returned v) u = true ∧ True) → FrameEnd s (.returned v) u (Jvm.fieldLocs frame_1_writes args s ++ Jvm.arrayLocs frame_1_arrays args s ++ Jvm.staticLocs frame_1_statics s) 0 0 → Post tb e args s (.returned v) u) :
    ArmFor flags0 classFile x code maxLocals ret World_1 tables_1 room_1 Calls_1 rest_1 Pre_1 Post := by
  intro l hfl _ _ p e ha hc hk s m args below hf hA hF happ hP
  obtain ⟨hcalls, hrest, hpre⟩ := hP
  obtain ⟨-, -, -, hnamed, -, -, -, hat⟩ := (Spec.applies_iff hf).mp happ
  obtain ⟨hg, hn⟩ := and_e (Cond.before_iff.mp (show (Jvm.Cond.and given_1 narrow_1).before args s = true from hpre))
  obtain ⟨g0, gr1⟩ := and_e hg
  obtain ⟨g1, g2⟩ := and_e gr1
  obtain ⟨k0, kr1⟩ := and_e hn
  obtain ⟨k1, kr2⟩ := and_e kr1
  obtain ⟨k2, k3⟩ := and_e kr2
  obtain ⟨w0, w1, rfl⟩ : ∃ w0 w1 : Value, args = #[w0, w1] := by
    have hs : args.size = 2 := by simpa [Cond.value, given_1] using g0
    obtain ⟨L⟩ := args
    match L, hs with
    | [w0, w1], _ => exact ⟨w0, w1, rfl⟩
  have hw := fun d (hd : d ∈ tables_1) => atoms_spec (ws := Jvm.Cond.code x code maxLocals ret :: tables_1) hat d (List.mem_cons_of_mem _ hd)
  have hfit : Fit s := fun {y c} hc i hi => by
    obtain ⟨ha, rfl⟩ := Array.getElem?_eq_some_iff.mp hc
    have q := List.all_eq_true.mp ((Array.all_eq_true_iff_forall_mem.mp hF) _ (Array.getElem_mem ha)) i (List.mem_range.mpr hi)
    simpa [Array.getElem?_eq_getElem hi] using q
  obtain ⟨i0, ei0⟩ := isL_v g1
  obtain rfl : w0 = (.long i0) := Option.some.inj ei0
  obtain ⟨i1, ei1⟩ := is_v g2
  obtain rfl : w1 = (.int i1) := Option.some.inj ei1
  obtain ⟨wS, eS⟩ := exa_v k0
  obtain ⟨wC, eC⟩ := exa_v k2
  obtain ⟨n, o, h1, h2, h3, _, L, rfl, ⟨rfl, N⟩, hq⟩ := rm0 l s _ hw tables_1 i0 i1 wS wC s.heap s.heap.size (Nat.le_refl _) (Sta.start eS (Or.inr ⟨(hw _ (List.mem_of_getElem? (i := 1) rfl)), (hw _ (List.mem_of_getElem? (i := 2) rfl))⟩)) (Exa.start eS k0) (own_fld eS (own_eqI k1)) (Sta.start eC (Or.inr ⟨(hw _ (List.mem_of_getElem? (i := 1) rfl)), (hw _ (List.mem_of_getElem? (i := 19) rfl))⟩)) (Exa.start eC k2) (own_fld eC (own_eqI k3)) p e ha hc hk s m _ below hf ((Spec.applies_iff_loose hf).mp happ).1 ⟨rfl, State.Warmed39.refl s, rfl⟩ trivial
  refine ⟨n, _, h1, h2, h3, hpost _ _ _ _ _ _ ⟨Cond.after_iff.mpr rfl, Cond.after_iff.mpr (eq_i res_at (Term.int_eval (1)) rfl), trivial⟩ ⟨hq.1, hq.2.1, (hq.2.2.sift fun y hy => Or.inr (N y hy)).mono (by decide) (by decide)⟩⟩
theorem main_1_1 : Claimed_1_1 := comes_1 fun _ _ _ _ _ _ h hF => ⟨h.1, hF⟩
theorem main_1_2 : Claimed_1_2 := comes_1 fun _ _ _ _ _ _ h hF => ⟨h.2.1, hF⟩
end Jvm.Pilot.@@N@@
namespace Jvm.Pilot.@@N@@
open Jvm Jvm.ClassFile Sem Op Lib Jvm.Free Jvm.Stand Jvm.Pilot.@@N@@.Jvm.D
/-! MADE BY PROGRAM (witnessworld.py) out of the Statement's table words and the real class files: 14 classes; the members and pool entries that the words name. The judged class is class 1, her method 1. -/
namespace start1
open Jvm.ClassFile
def u (s : String) : CpInfo := .utf8 (stringToUtf16 s)
/-- a pool by its gaps: so many unusable entries, then the entry; so many at the end -/
def gap : Nat → List CpInfo → List CpInfo
  | 0, r => r
  | n + 1, r => .unusable :: gap n r
def poolList (es : List (Nat × CpInfo)) (last : Nat) : List CpInfo := es.foldr (fun e r => gap e.1 (e.2 :: r)) (gap last [])
def pool (es : List (Nat × CpInfo)) (last : Nat) : Array CpInfo := ⟨poolList es last⟩
def fileOf (pool : Array CpInfo) (this : Nat) (attrs : Array Attribute := #[]) (ms : Array MethodInfo := #[]) (fl : Nat := 33) (sup : Nat := 0) (ifs : Array Nat := #[]) (fds : Array FieldInfo := #[]) : ClassFile where
  minorVersion := 0
  majorVersion := 65
  constantPool := pool
  accessFlags := fl
  thisClass := this
  superClass := sup
  interfaces := ifs
  fields := fds
  methods := ms
  attributes := attrs
def plain (name : String) (sup : Option ClassId) : Class where
  name := name
  kind := .ordinary
  loader := none
  accessFlags := 33
  super := sup
  interfaces := #[]
  cf := none
  fields := #[]
  methods := #[]
  instanceTypes := #[]
  staticTypes := #[]
  resolved := #[]
  callSites := []
  init := .initialized
  statics := none
  mirror := none

def pool0 : Array CpInfo := pool [(5, u "<init>"), (0, u "()V"), (1, .class_ 10), (1, u "java/lang/Object")] 113

def k0m0 : Method := { name := "<init>", desc := "()V", sig := { parameters := [], returnType := none }, accessFlags := 1, code := none }
/-- java/lang/Object -/
def k0 : Class := { plain "java/lang/Object" none with
  accessFlags := 33
  interfaces := #[]
  cf := some (fileOf pool0 8 #[] #[{ accessFlags := 1, nameIndex := 5, descriptorIndex := 6, attributes := #[] }] 33 0 #[] #[])
  fields := #[]
  methods := #[k0m0]
  instanceTypes := #[]
  staticTypes := #[]
  resolved := Array.replicate 124 none
  statics := none }

def pool1 : Array CpInfo := pool [(2, .class_ 4), (1, u "java/lang/Object"), (0, u "<init>"), (0, u "()V"), (0, .fieldref 8 9), (0, .class_ 10), (0, .nameAndType 11 12), (0, u "com/example/keys_to_bits/keystobits/FilterKind"), (0, u "COUNTING"), (0, u "Lcom/example/keys_to_bits/keystobits/FilterKind;"), (0, .fieldref 8 14), (0, .nameAndType 15 12), (0, u "STANDARD"), (0, .long 16), (1, .long 64), (1, .long 255), (3, .long 9223372036854775807), (1, .methodref 8 27), (0, .nameAndType 28 29), (0, u "words"), (0, u "(J)J"), (0, .class_ 31), (0, u "com/example/keys_to_bits/keystobits/FilterKindWordsPinLaw"), (2, u "law"), (0, u "(JI)Z")] 3

def k1m0 : Method := { name := "<init>", desc := "()V", sig := { parameters := [], returnType := none }, accessFlags := 1, code := none }
def k1c1 : Code := { maxStack := 4, maxLocals := 15, code := code, exceptionTable := #[], attributes := #[] }
def k1m1 : Method := { name := "law", desc := "(JI)Z", sig := { parameters := [.long, .int], returnType := some .boolean }, accessFlags := 9, code := some k1c1 }
/-- com/example/keys_to_bits/keystobits/FilterKindWordsPinLaw -/
def k1 : Class := { plain "com/example/keys_to_bits/keystobits/FilterKindWordsPinLaw" (some 0) with
  accessFlags := 49
  interfaces := #[]
  cf := some (fileOf pool1 30 #[] #[{ accessFlags := 1, nameIndex := 5, descriptorIndex := 6, attributes := #[] }, { accessFlags := 9, nameIndex := 34, descriptorIndex := 35, attributes := #[] }] 49 2 #[] #[])
  fields := #[]
  methods := #[k1m0, k1m1]
  instanceTypes := #[]
  staticTypes := #[]
  resolved := Array.replicate 39 none
  statics := none }

def pool2 : Array CpInfo := pool [(1, .class_ 2), (0, u "java/lang/constant/Constable"), (0, .class_ 4), (0, u "java/lang/Object")] 6

/-- java/lang/constant/Constable -/
def k2 : Class := { plain "java/lang/constant/Constable" (some 0) with
  accessFlags := 1537
  interfaces := #[]
  cf := some (fileOf pool2 1 #[] #[] 1537 3 #[] #[])
  fields := #[]
  methods := #[]
  instanceTypes := #[]
  staticTypes := #[]
  resolved := Array.replicate 11 none
  statics := none }

def pool3 : Array CpInfo := pool [(1, .class_ 2), (0, u "java/lang/Comparable"), (0, .class_ 4), (0, u "java/lang/Object")] 7

/-- java/lang/Comparable -/
def k3 : Class := { plain "java/lang/Comparable" (some 0) with
  accessFlags := 1537
  interfaces := #[]
  cf := some (fileOf pool3 1 #[] #[] 1537 3 #[] #[])
  fields := #[]
  methods := #[]
  instanceTypes := #[]
  staticTypes := #[]
  resolved := Array.replicate 12 none
  statics := none }

def pool4 : Array CpInfo := pool [(1, .class_ 2), (0, u "java/io/Serializable"), (0, .class_ 4), (0, u "java/lang/Object")] 2

/-- java/io/Serializable -/
def k4 : Class := { plain "java/io/Serializable" (some 0) with
  accessFlags := 1537
  interfaces := #[]
  cf := some (fileOf pool4 1 #[] #[] 1537 3 #[] #[])
  fields := #[]
  methods := #[]
  instanceTypes := #[]
  staticTypes := #[]
  resolved := Array.replicate 7 none
  statics := none }

def pool5 : Array CpInfo := pool [(2, .class_ 4), (1, u "java/lang/Enum"), (0, u "name"), (0, u "Ljava/lang/String;"), (2, u "ordinal"), (0, u "I"), (1, .class_ 14), (1, u "java/lang/Object"), (4, u "hash"), (86, .class_ 108), (1, u "java/lang/Enum$EnumDesc"), (2, .class_ 112), (0, u "java/lang/constant/Constable"), (0, .class_ 114), (0, u "java/lang/Comparable"), (0, .class_ 116), (0, u "java/io/Serializable")] 87

/-- java/lang/Enum -/
def k5 : Class := { plain "java/lang/Enum" (some 0) with
  accessFlags := 1057
  interfaces := #[2, 3, 4]
  cf := some (fileOf pool5 2 #[.nestMembers #[106]] #[] 1057 12 #[111, 113, 115] #[{ accessFlags := 18, nameIndex := 5, descriptorIndex := 6, attributes := #[] }, { accessFlags := 18, nameIndex := 9, descriptorIndex := 10, attributes := #[] }, { accessFlags := 2, nameIndex := 19, descriptorIndex := 10, attributes := #[] }])
  fields := #[{ name := "name", type := (.object "java/lang/String"), accessFlags := 18, slot := 0, constantValue := 0 }, { name := "ordinal", type := .int, accessFlags := 18, slot := 1, constantValue := 0 }, { name := "hash", type := .int, accessFlags := 2, slot := 2, constantValue := 0 }]
  methods := #[]
  instanceTypes := #[(.object "java/lang/String"), .int, .int]
  staticTypes := #[]
  resolved := Array.replicate 204 none
  statics := none }

def pool6 : Array CpInfo := pool [(3, .class_ 4), (0, u "com/example/keys_to_bits/keystobits/FilterKind"), (2, u "STANDARD"), (0, u "Lcom/example/keys_to_bits/keystobits/FilterKind;"), (2, u "COUNTING"), (2, u "$VALUES"), (0, u "[Lcom/example/keys_to_bits/keystobits/FilterKind;"), (6, .class_ 24), (1, u "java/lang/Enum"), (8, u "code"), (0, u "I"), (0, .fieldref 3 36), (0, .nameAndType 37 34), (0, u "bitsPerCell"), (2, .methodref 3 41), (0, .nameAndType 42 43), (0, u "cellsPerWord"), (0, u "()I"), (18, u "KINDS"), (16, u "(J)J"), (32, u "WORDS"), (0, u "Ljava/lang/invoke/VarHandle;"), (11, .class_ 126), (0, u "com/example/keys_to_bits/keystobits/FilterKind$1"), (4, .class_ 132), (0, u "com/example/keys_to_bits/keystobits/FilterKind$2"), (17, u "MAX_WORDS"), (0, u "J"), (1, u "MAX_COUNT"), (2, u "LOWEST_COUNTER_BITS"), (2, u "LOW_COUNTERS"), (2, u "SIXTEENS"), (14, u "words")] 28

def k6c0 : Code := { maxStack := 2, maxLocals := 1, code := prog_5_method_9_code, exceptionTable := #[], attributes := #[] }
def k6m0 : Method := { name := "cellsPerWord", desc := "()I", sig := { parameters := [], returnType := some .int }, accessFlags := 0, code := some k6c0 }
def k6c1 : Code := { maxStack := 4, maxLocals := 3, code := prog_5_method_10_code, exceptionTable := #[], attributes := #[] }
def k6m1 : Method := { name := "words", desc := "(J)J", sig := { parameters := [.long], returnType := some .long }, accessFlags := 0, code := some k6c1 }
/-- com/example/keys_to_bits/keystobits/FilterKind -/
def k6 : Class := { plain "com/example/keys_to_bits/keystobits/FilterKind" (some 5) with
  accessFlags := 17441
  interfaces := #[]
  cf := some (fileOf pool6 3 #[.nestMembers #[131, 125]] #[{ accessFlags := 0, nameIndex := 42, descriptorIndex := 43, attributes := #[] }, { accessFlags := 0, nameIndex := 177, descriptorIndex := 79, attributes := #[] }] 17441 22 #[] #[{ accessFlags := 16409, nameIndex := 7, descriptorIndex := 8, attributes := #[] }, { accessFlags := 16409, nameIndex := 11, descriptorIndex := 8, attributes := #[] }, { accessFlags := 26, nameIndex := 150, descriptorIndex := 151, attributes := #[] }, { accessFlags := 26, nameIndex := 153, descriptorIndex := 151, attributes := #[] }, { accessFlags := 26, nameIndex := 156, descriptorIndex := 151, attributes := #[] }, { accessFlags := 26, nameIndex := 159, descriptorIndex := 151, attributes := #[] }, { accessFlags := 26, nameIndex := 162, descriptorIndex := 151, attributes := #[] }, { accessFlags := 26, nameIndex := 112, descriptorIndex := 113, attributes := #[] }, { accessFlags := 26, nameIndex := 62, descriptorIndex := 15, attributes := #[] }, { accessFlags := 18, nameIndex := 33, descriptorIndex := 34, attributes := #[] }, { accessFlags := 18, nameIndex := 37, descriptorIndex := 34, attributes := #[] }, { accessFlags := 4122, nameIndex := 14, descriptorIndex := 15, attributes := #[] }])
  fields := #[{ name := "STANDARD", type := (.object "com/example/keys_to_bits/keystobits/FilterKind"), accessFlags := 16409, slot := 0, constantValue := 0 }, { name := "COUNTING", type := (.object "com/example/keys_to_bits/keystobits/FilterKind"), accessFlags := 16409, slot := 1, constantValue := 0 }, { name := "MAX_WORDS", type := .long, accessFlags := 26, slot := 2, constantValue := 0 }, { name := "MAX_COUNT", type := .long, accessFlags := 26, slot := 3, constantValue := 0 }, { name := "LOWEST_COUNTER_BITS", type := .long, accessFlags := 26, slot := 4, constantValue := 0 }, { name := "LOW_COUNTERS", type := .long, accessFlags := 26, slot := 5, constantValue := 0 }, { name := "SIXTEENS", type := .long, accessFlags := 26, slot := 6, constantValue := 0 }, { name := "WORDS", type := (.object "java/lang/invoke/VarHandle"), accessFlags := 26, slot := 7, constantValue := 0 }, { name := "KINDS", type := (.array (.object "com/example/keys_to_bits/keystobits/FilterKind")), accessFlags := 26, slot := 8, constantValue := 0 }, { name := "code", type := .int, accessFlags := 18, slot := 3, constantValue := 0 }, { name := "bitsPerCell", type := .int, accessFlags := 18, slot := 4, constantValue := 0 }, { name := "$VALUES", type := (.array (.object "com/example/keys_to_bits/keystobits/FilterKind")), accessFlags := 4122, slot := 9, constantValue := 0 }]
  methods := #[k6m0, k6m1]
  instanceTypes := #[(.object "java/lang/String"), .int, .int, .int, .int]
  staticTypes := #[(.object "com/example/keys_to_bits/keystobits/FilterKind"), (.object "com/example/keys_to_bits/keystobits/FilterKind"), .long, .long, .long, .long, .long, (.object "java/lang/invoke/VarHandle"), (.array (.object "com/example/keys_to_bits/keystobits/FilterKind")), (.array (.object "com/example/keys_to_bits/keystobits/FilterKind"))]
  resolved := Array.replicate 206 none
  statics := some 0 }

def pool7 : Array CpInfo := pool [(2, .class_ 4), (1, u "com/example/keys_to_bits/keystobits/FilterKind"), (8, .class_ 14), (0, u "com/example/keys_to_bits/keystobits/FilterKind$1")] 19

/-- com/example/keys_to_bits/keystobits/FilterKind$1 -/
def k7 : Class := { plain "com/example/keys_to_bits/keystobits/FilterKind$1" (some 6) with
  accessFlags := 16432
  interfaces := #[]
  cf := some (fileOf pool7 13 #[.nestHost 2] #[] 16432 2 #[] #[])
  fields := #[]
  methods := #[]
  instanceTypes := #[(.object "java/lang/String"), .int, .int, .int, .int]
  staticTypes := #[]
  resolved := Array.replicate 34 none
  statics := none }

def pool8 : Array CpInfo := pool [(1, .class_ 2), (0, u "com/example/keys_to_bits/keystobits/FilterKind"), (7, .class_ 12), (1, u "com/example/keys_to_bits/keystobits/FilterKind$2")] 49

/-- com/example/keys_to_bits/keystobits/FilterKind$2 -/
def k8 : Class := { plain "com/example/keys_to_bits/keystobits/FilterKind$2" (some 6) with
  accessFlags := 16432
  interfaces := #[]
  cf := some (fileOf pool8 10 #[.nestHost 1] #[] 16432 1 #[] #[])
  fields := #[]
  methods := #[]
  instanceTypes := #[(.object "java/lang/String"), .int, .int, .int, .int]
  staticTypes := #[]
  resolved := Array.replicate 62 none
  statics := none }

def pool9 : Array CpInfo := pool [(1, u "java/lang/Cloneable"), (0, .class_ 1), (0, u "java/lang/Object"), (0, .class_ 3)] 3

/-- java/lang/Cloneable -/
def k9 : Class := { plain "java/lang/Cloneable" (some 0) with
  accessFlags := 1537
  interfaces := #[]
  cf := some (fileOf pool9 2 #[] #[] 1537 4 #[] #[])
  fields := #[]
  methods := #[]
  instanceTypes := #[]
  staticTypes := #[]
  resolved := Array.replicate 8 none
  statics := none }

/-- the primitive byte -/
def k10 : Class := { plain "byte" none with kind := .primitive 'B', accessFlags := 0x411 }
/-- [B -/
def k11 : Class := { plain "[B" (some 0) with kind := .array 10 .byte, interfaces := #[9, 4], accessFlags := 1041 }

/-- the primitive int -/
def k12 : Class := { plain "int" none with kind := .primitive 'I', accessFlags := 0x411 }
/-- [I -/
def k13 : Class := { plain "[I" (some 0) with kind := .array 12 .int, interfaces := #[9, 4], accessFlags := 1041 }

def heap : Heap := #[{ cls := 6, slots := #[.ref 1, .ref 2, .long 0, .long 0, .long 0, .long 0, .long 0, .null, .null, .null], vm := .statics 6 },
  { cls := 7, slots := #[.null, .int 0, .int 0, .int 0, .int 1], vm := .none },
  { cls := 8, slots := #[.null, .int 1, .int 0, .int 1, .int 4], vm := .none }]
def classes : Array Class := #[k0, k1, k2, k3, k4, k5, k6, k7, k8, k9, k10, k11, k12, k13]
def interned : List (Array UInt16 × Addr) := []
def slotsUsed : Nat := 20
def theMethod : MethodId := ⟨1, 1⟩
def args0 : Array Value := #[.long 100, .int 3]
def aboutOver (below : List Frame) : State where
  vm := { classes := classes, interned := interned.toArray }
  heap := heap
  slotsUsed := slotsUsed
  threads := #[{ frames := .invoking theMethod args0 :: below }]
def below0 : List Frame := [.native { method := ⟨0, 0⟩, args := #[] }]
def about1 : State := aboutOver below0
def p0 : Program := .bare "" "" ""
def e0 : Env := launch0.env 0 0 0
theorem w_frames : about1.frames = Frame.invoking theMethod args0 :: below0 := rfl
set_option maxRecDepth 65536 in
theorem w_args : argsFit about1.vm theMethod args0 = true := by decide +kernel
set_option maxRecDepth 65536 in
theorem w_heap : heapFits about1 = true := by decide +kernel
set_option maxRecDepth 65536 in
theorem w_runnable : about1.curStatus? = some .runnable := by decide +kernel
set_option maxRecDepth 65536 in
theorem w_alone : about1.alone = true := by decide +kernel
set_option maxRecDepth 65536 in
theorem w_named : about1.methodNamed? x = some theMethod := by decide +kernel
set_option maxRecDepth 65536 in
theorem w_hears : about1.hears theMethod below0 = true := by decide +kernel
set_option maxRecDepth 65536 in
theorem w_ripe : about1.ripe theMethod args0 below0 = true := by decide +kernel
theorem w_running : about1.status = .running := rfl
set_option maxRecDepth 65536 in
theorem w_room : about1.hasRoom e0.platform room_1 = true :=
  launch0.hasRoom_least _ room_1 (by decide +kernel) (by decide +kernel) (by decide +kernel) (by decide +kernel) (by decide +kernel) (by decide +kernel)
theorem allAtoms_all (ts : List Jvm.Cond) (a : Array Jvm.Value) (st : Jvm.State) : (allAtoms ts).before a st = ts.all (fun c => c.before a st) := by
  induction ts with
  | nil => rfl
  | cons c t ih =>
    show (Jvm.Cond.and c (allAtoms t)).before a st = _
    rw [Jvm.Cond.before_and, ih, List.all_cons]
def words1 : List Jvm.Cond := Jvm.Cond.code x code maxLocals ret :: tables_1
/-- a 'code' word, met by the world's own term for the bytes: nothing is compared byte by byte -/
theorem code_word {y : MethodName} {bytes : ByteArray} {mx : Nat} {rt : Option FieldType} {a : Array Value} {s : State} {m : MethodId} {meth : Method} {c : Code} (h1 : s.methodNamed? y = some m) (h2 : s.vm.method? m = some meth) (h3 : meth.code = some c) (h4 : c.code = bytes)
    (h5 : (c.maxLocals == mx && c.exceptionTable.isEmpty && decide (c.maxStack ≤ mostOperands) && decide (meth.sig.returnType = rt) && !meth.locks && decide (parseMethodDescriptor y.desc = some meth.sig)) = true) : (Jvm.Cond.code y bytes mx rt).before a s = true := by
  simp only [Bool.and_eq_true, beq_iff_eq, Bool.not_eq_true', decide_eq_true_eq] at h5
  obtain ⟨⟨⟨⟨⟨g1, g2⟩, g3⟩, g4⟩, g5⟩, g6⟩ := h5
  simp [Cond.before, Cond.holds, Cond.value, h1, h2, h3, h4, g1, g2, g3, g4, g5, g6]
def isCode : Jvm.Cond → Bool
  | .code _ _ _ _ => true
  | _ => false
theorem all_split {L : List Jvm.Cond} {P : Jvm.Cond → Bool} (h1 : L.all (fun c => isCode c || P c) = true) (h2 : ∀ c ∈ L.filter isCode, P c = true) : L.all P = true := by
  refine List.all_eq_true.mpr fun c hc => ?_
  have h := List.all_eq_true.mp h1 c hc
  rcases Bool.eq_false_or_eq_true (isCode c) with hi | hi
  · exact h2 c (List.mem_filter.mpr ⟨hc, hi⟩)
  · simpa [hi] using h
set_option maxRecDepth 65536 in
theorem w_c0 : (Jvm.Cond.code x code maxLocals ret).before args0 about1 = true := code_word (m := ⟨1, 1⟩) (meth := k1m1) (c := k1c1) (by decide +kernel) rfl rfl rfl (by decide +kernel)
set_option maxRecDepth 65536 in
theorem w_c1 : (Jvm.Cond.code ({ cls := "com/example/keys_to_bits/keystobits/FilterKind", name := "words", desc := "(J)J" } : Jvm.MethodName) prog_5_method_10_code (3 : Nat) (Option.some Jvm.ClassFile.FieldType.long)).before args0 about1 = true := code_word (m := ⟨6, 1⟩) (meth := k6m1) (c := k6c1) (by decide +kernel) rfl rfl rfl (by decide +kernel)
set_option maxRecDepth 65536 in
theorem w_c2 : (Jvm.Cond.code ({ cls := "com/example/keys_to_bits/keystobits/FilterKind", name := "cellsPerWord", desc := "()I" } : Jvm.MethodName) prog_5_method_9_code (1 : Nat) (Option.some Jvm.ClassFile.FieldType.int)).before args0 about1 = true := code_word (m := ⟨6, 0⟩) (meth := k6m0) (c := k6c0) (by decide +kernel) rfl rfl rfl (by decide +kernel)
def codes1 : List Jvm.Cond := [Jvm.Cond.code x code maxLocals ret, Jvm.Cond.code ({ cls := "com/example/keys_to_bits/keystobits/FilterKind", name := "words", desc := "(J)J" } : Jvm.MethodName) prog_5_method_10_code (3 : Nat) (Option.some Jvm.ClassFile.FieldType.long), Jvm.Cond.code ({ cls := "com/example/keys_to_bits/keystobits/FilterKind", name := "cellsPerWord", desc := "()I" } : Jvm.MethodName) prog_5_method_9_code (1 : Nat) (Option.some Jvm.ClassFile.FieldType.int)]
set_option maxRecDepth 65536 in
theorem codes_eq : words1.filter isCode = codes1 := rfl
theorem w_codes : ∀ c ∈ words1.filter isCode, c.before args0 about1 = true := by
  rw [codes_eq]
  intro c hc
  simp only [codes1, List.mem_cons, List.not_mem_nil, or_false] at hc
  rcases hc with rfl | rfl | rfl
  · exact w_c0
  · exact w_c1
  · exact w_c2
set_option maxRecDepth 65536 in
theorem w_t1 : (words1.take 24).all (fun c => isCode c || c.before args0 about1) = true := by decide +kernel
set_option maxRecDepth 65536 in
theorem w_t2 : (words1.drop 24).all (fun c => isCode c || c.before args0 about1) = true := by decide +kernel
theorem w_tables : (allAtoms (Jvm.Cond.code x code maxLocals ret :: tables_1)).before args0 about1 = true := by
  rw [allAtoms_all]
  show words1.all (fun c => c.before args0 about1) = true
  refine all_split ?_ w_codes
  rw [← List.take_append_drop 24 words1, List.all_append, w_t1, w_t2]
  rfl
set_option maxRecDepth 65536 in
theorem w_case : (Jvm.Cond.and given_1 narrow_1).before args0 about1 = true := by decide +kernel
theorem w_applies : (headSpec (Jvm.Cond.code x code maxLocals ret :: tables_1) room_1).applies x e0.platform about1 = true :=
  (Spec.applies_iff w_frames).mpr ⟨w_running, w_runnable, w_alone, w_named, w_hears, w_ripe, w_room, w_tables⟩
theorem atStart : AtStart classFile x code maxLocals ret World_1 tables_1 room_1 Calls_1 rest_1 Pre_1 launch0 p0 e0 about1 theMethod args0 below0 :=
  ⟨lists_1, trivial, launch0.admits_env _ _ _, launch0.least_env, fairChoices_fair.cas, fairChoices_fair.clock, w_frames, w_args, w_heap, w_applies, trivial, trivial, w_case⟩
end start1
theorem witness_1 : WitnessClaimed_1 := ⟨start1.p0, start1.e0, start1.about1, start1.theMethod, start1.args0, start1.below0, start1.atStart⟩
end Jvm.Pilot.@@N@@
