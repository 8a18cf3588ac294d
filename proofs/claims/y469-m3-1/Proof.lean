import JvmDerived
import JvmDerived.Pilot.@@N@@Statement
import JvmDerived.Pilot.@@N@@Code
set_option linter.unusedVariables false
set_option linter.unusedSimpArgs false
namespace Jvm.Pilot.@@N@@
open Jvm Jvm.ClassFile Sem Op Lib Jvm.Free Jvm.Stand Jvm.LawKit Jvm.RoadKit Bundle Jvm.Pilot.@@N@@.Jvm.D
def own_QP (r : Option Value) (h0 : Heap) (n0 : Nat) (v : Option Value) (h : Heap) (L : List Loc) : Prop := v = r ∧ Fr n0 L ∧ h = h0
def own_Q0 (n0 : Nat) (v : Option Value) (h : Heap) (L : List Loc) : Prop := v = some (.int 1) ∧ Fr n0 L
section OwnWords
variable {args : Array Value} {s : State}
theorem own_eqI {t : Term} {k : Int32} (h : (Jvm.Cond.eq t (.int k)).value args s none s [] = some true) : t.eval args s none [] s = some (.int k) := by
  obtain ⟨x, y, h1, h2, h3, h4⟩ := cmp_v (Or.inl h)
  obtain rfl : y = .int k := (Option.some.inj h2).symm
  obtain ⟨z, rfl⟩ := h4
  have q := gotT (Cond.eq_ints h1 h2) h
  rw [h1, q]
theorem own_eqR {t u : Term} {b : Addr} (h : (Jvm.Cond.eq t u).value args s none s [] = some true) (hu : u.eval args s none [] s = some (.ref b)) : t.eval args s none [] s = some (.ref b) := by
  obtain ⟨x, y, h1, h2, h3, h4⟩ := cmp_v (Or.inl h)
  obtain rfl : y = .ref b := Option.some.inj (h2.symm.trans hu)
  have q := gotT (eq_R h1 h2 h4.2 h4.1) h
  rw [h1, q]
theorem own_fld {t : Term} {C n d : String} {a : Addr} {v : Value} (ht : t.eval args s none [] s = some (.ref a)) (h : (Term.field t C n d).eval args s none [] s = some v) : Fld s s.heap a C n d v := Fld.start ((fld_at ht).symm.trans h)
end OwnWords
theorem own_staKeep {Z : State} {h h' : Heap} {C n d : String} {v : Value} {ws : List Addr} (F : Sta Z h C n d v) (K : Keep h h' ws) (q : ∀ x ∈ ws, ∀ cell : Cell, h[x]? = some cell → cell.vm.isStatics = false) : Sta Z h' C n d v := by
  obtain ⟨cf, i, k, f, st, cell, h1, h2, h3, h4, h5, h6, h7⟩ := F
  refine ⟨cf, i, k, f, st, cell, h1, h2, h3, h4, K.2.1 st cell h5 (fun z => ?_), h6, h7⟩
  rw [q st z cell h5] at h6; cases h6
def own_r4 (c : Int32) : Int32 := 0
def own_r3 (c : Int32) : Int32 := if c = (95 : Int32) then 1 else if c = (58 : Int32) then 1 else 0
def own_r2 (c : Int32) : Int32 := if c < (65 : Int32) then own_r3 c else if (90 : Int32) < c then own_r3 c else 1
def own_ref (c : Int32) : Int32 := if c < (97 : Int32) then own_r2 c else if (122 : Int32) < c then own_r2 c else 1
def own_ns (cl : Cell) (c : Int32) : Int32 := if c < (0 : Int32) then 0 else if c < (128 : Int32) then (if (atv cl c &&& (1 : Int32)) = (0 : Int32) then 0 else 1) else 0
def own_kind (x : Int) : Int := if x < 45 then 0 else if x < 47 then 2 else if x < 48 then 0 else if x < 58 then 2 else if x < 59 then 3 else if x < 65 then 0 else if x < 91 then 3 else if x < 95 then 0 else if x < 96 then 3 else if x < 97 then 0 else if x < 123 then 3 else 0
theorem own_all128 : ∀ i : Fin 128, (if ((Int32.ofInt (own_kind (i.1 : Int))) &&& (1 : Int32)) = (0 : Int32) then (0 : Int32) else 1) = own_ref (Int32.ofInt (i.1 : Int)) := by decide +kernel
theorem own_lt {c : Int32} (k : Int32) (h : c.toInt < k.toInt) : c < k := Int32.lt_iff_toInt_lt.mpr h
theorem own_nlt {c : Int32} (k : Int32) (h : k.toInt ≤ c.toInt) : ¬ c < k := fun q => by have := Int32.lt_iff_toInt_lt.mp q; omega
theorem own_nq {c : Int32} (k : Int32) (h : c.toInt ≠ k.toInt) : ¬ c = k := fun q => h (by rw [q])
theorem own_lo {c : Int32} (h : c.toInt < 0) : own_ref c = 0 := by
  have g : ∀ k : Int32, 0 ≤ k.toInt → c.toInt < k.toInt := fun k hk => by omega
  rw [own_ref, if_pos (own_lt _ (g _ (by decide))), own_r2, if_pos (own_lt _ (g _ (by decide)))]
  rw [own_r3, if_neg (own_nq _ (by have z : (95 : Int32).toInt = 95 := rfl; omega)), if_neg (own_nq _ (by have z : (58 : Int32).toInt = 58 := rfl; omega))]
theorem own_hi {c : Int32} (h : 128 ≤ c.toInt) : own_ref c = 0 := by
  have g : ∀ k : Int32, k.toInt < 128 → k.toInt ≤ c.toInt := fun k hk => by omega
  have g' : ∀ k : Int32, k.toInt < 128 → k < c := fun k hk => Int32.lt_iff_toInt_lt.mpr (by omega)
  rw [own_ref, if_neg (own_nlt _ (g _ (by decide))), if_pos (g' _ (by decide)), own_r2, if_neg (own_nlt _ (g _ (by decide))), if_pos (g' _ (by decide))]
  rw [own_r3, if_neg (own_nq _ (by have z : (95 : Int32).toInt = 95 := rfl; omega)), if_neg (own_nq _ (by have z : (58 : Int32).toInt = 58 := rfl; omega))]
theorem own_pure {cl : Cell} (h : ∀ j : Int32, ¬ j < (0 : Int32) → j < (128 : Int32) → (atv cl j).toInt = own_kind j.toInt) (c : Int32) : own_ns cl c = own_ref c := by
  unfold own_ns
  have z0 : (0 : Int32).toInt = 0 := rfl
  have z1 : (128 : Int32).toInt = 128 := rfl
  by_cases h0 : c < (0 : Int32)
  · rw [if_pos h0, own_lo (by rw [Int32.lt_iff_toInt_lt] at h0; omega)]
  · by_cases h1 : c < (128 : Int32)
    · rw [if_neg h0, if_pos h1]
      have e := h c h0 h1
      rw [Int32.lt_iff_toInt_lt] at h0 h1
      have q := own_all128 ⟨c.toInt.toNat, by omega⟩
      have e1 : ((c.toInt.toNat : Nat) : Int) = c.toInt := by omega
      simp only [e1, ← e, Int32.ofInt_toInt] at q
      exact q
    · rw [if_neg h0, if_neg h1, own_hi (by rw [Int32.lt_iff_toInt_lt] at h1; omega)]
section OwnTab
variable {args : Array Value} {s : State} {t : Term} {wK : Addr} {cl : Cell} {j k v lo hi : Int32}
theorem own_el (T : Tab s s.heap wK cl .byte (128 : Int32)) (ht : ∀ idx, t.eval args s none idx s = some (.ref wK)) {u : Term} {idx : List Nat} (hu : u.eval args s none idx s = some (.int j)) (h0 : ¬ j < (0 : Int32)) (h1 : j < (128 : Int32)) : (Term.elem t u).eval args s none idx s = some (.int (atv cl j)) := by
  rw [elem_f (ht idx) hu (Arr.fin (Vm.Alike.refl _) T.1) h0]
  exact T.2.2.2 j (inb_of T.2.1 ⟨h0, h1⟩)
theorem own_at (T : Tab s s.heap wK cl .byte (128 : Int32)) (ht : ∀ idx, t.eval args s none idx s = some (.ref wK)) (h0 : ¬ k < (0 : Int32)) (h1 : k < (128 : Int32)) (h : (Jvm.Cond.eq (.elem t (.int k)) (.int v)).value args s none s [] = some true) : j.toInt = k.toInt → (atv cl j).toInt = v.toInt := fun e => by
  obtain rfl := Int32.toInt_inj.mp e
  have q := own_eqI h
  rw [own_el T ht (Term.int_eval _) h0 h1] at q
  cases q; rfl
theorem own_idx (T : Tab s s.heap wK cl .byte (128 : Int32)) (ht : ∀ idx, t.eval args s none idx s = some (.ref wK)) (h0 : ¬ j < (0 : Int32)) (h1 : j < (128 : Int32)) {c : Jvm.Cond} (h : (Jvm.Cond.all t c).value args s none s [] = some true) : c.value args s none s [j.toNatClampNeg] = some true :=
  Cond.all_elim (ht []) (Arr.fin (Vm.Alike.refl _) T.1) h _ (Nat.lt_of_not_le fun q => inb_of T.2.1 ⟨h0, h1⟩ (Or.inr q))
theorem own_rng (T : Tab s s.heap wK cl .byte (128 : Int32)) (ht : ∀ idx, t.eval args s none idx s = some (.ref wK)) (h0 : ¬ j < (0 : Int32)) (h1 : j < (128 : Int32)) (h : (Jvm.Cond.all t (.or (.lt (.index 0) (.int lo)) (.or (.le (.int hi) (.index 0)) (.eq (.elem t (.index 0)) (.int v))))).value args s none s [] = some true) : j.toInt < lo.toInt ∨ hi.toInt ≤ j.toInt ∨ (atv cl j).toInt = v.toInt := by
  rcases or3 (own_idx T ht h0 h1 h) (Cond.lt_ints (idx_at h0) (Term.int_eval _)) (Cond.le_ints (Term.int_eval _) (idx_at h0)) (Cond.eq_ints (own_el T ht (idx_at h0) h0 h1) (Term.int_eval _)) with q | q | q
  · exact Or.inl (Int32.lt_iff_toInt_lt.mp q)
  · exact Or.inr (Or.inl (by rw [Int32.lt_iff_toInt_lt] at q; omega))
  · exact Or.inr (Or.inr (by rw [q]))
theorem own_low (T : Tab s s.heap wK cl .byte (128 : Int32)) (ht : ∀ idx, t.eval args s none idx s = some (.ref wK)) (h0 : ¬ j < (0 : Int32)) (h1 : j < (128 : Int32)) (h : (Jvm.Cond.all t (.or (.le (.int hi) (.index 0)) (.eq (.elem t (.index 0)) (.int v)))).value args s none s [] = some true) : hi.toInt ≤ j.toInt ∨ (atv cl j).toInt = v.toInt := by
  rcases or_e2 (Cond.le_ints (Term.int_eval _) (idx_at h0)) (Cond.eq_ints (own_el T ht (idx_at h0) h0 h1) (Term.int_eval _)) (own_idx T ht h0 h1 h) with q | q
  · exact Or.inl (Int32.le_iff_toInt_le.mp q)
  · exact Or.inr (by rw [q])
theorem own_up (T : Tab s s.heap wK cl .byte (128 : Int32)) (ht : ∀ idx, t.eval args s none idx s = some (.ref wK)) (h0 : ¬ j < (0 : Int32)) (h1 : j < (128 : Int32)) (h : (Jvm.Cond.all t (.or (.lt (.index 0) (.int lo)) (.eq (.elem t (.index 0)) (.int v)))).value args s none s [] = some true) : j.toInt < lo.toInt ∨ (atv cl j).toInt = v.toInt := by
  rcases or_e2 (Cond.lt_ints (idx_at h0) (Term.int_eval _)) (Cond.eq_ints (own_el T ht (idx_at h0) h0 h1) (Term.int_eval _)) (own_idx T ht h0 h1 h) with q | q
  · exact Or.inl (Int32.lt_iff_toInt_lt.mp q)
  · exact Or.inr (by rw [q])
theorem own_len (h : (Term.length t).eval args s none [] s = some (.int k)) {a : Addr} (ht : t.eval args s none [] s = some (.ref a)) (A : Arr s s.heap a cl .byte) : cl.slots.size < 2 ^ 31 ∧ cl.slots.size.toInt32 = k := by
  have ha : s.arrayAt? a = some cl := Arr.fin (Vm.Alike.refl _) A
  by_cases hl : cl.slots.size < 2 ^ 31
  · rw [len_f ht ha hl] at h; cases h; exact ⟨hl, rfl⟩
  · simp [Term.eval, ht, ha, hl] at h
end OwnTab
theorem d1_0 : decode prog_31_method_2_code 0 = .ok (.iload_n 0, 1) := by decide +kernel
theorem d1_1 : decode prog_31_method_2_code 1 = .ok (.ifCond .lt 24, 3) := by decide +kernel
theorem d1_25 : decode prog_31_method_2_code 25 = .ok (.iconst 0, 1) := by decide +kernel
theorem d1_26 : decode prog_31_method_2_code 26 = .ok (.ireturn, 1) := by decide +kernel
theorem d1_4 : decode prog_31_method_2_code 4 = .ok (.iload_n 0, 1) := by decide +kernel
theorem d1_5 : decode prog_31_method_2_code 5 = .ok (.sipush 128, 3) := by decide +kernel
theorem d1_8 : decode prog_31_method_2_code 8 = .ok (.if_icmp .ge 17, 3) := by decide +kernel
theorem d1_11 : decode prog_31_method_2_code 11 = .ok (.getstatic 87, 3) := by decide +kernel
theorem d1_14 : decode prog_31_method_2_code 14 = .ok (.iload_n 0, 1) := by decide +kernel
theorem d1_15 : decode prog_31_method_2_code 15 = .ok (.baload, 1) := by decide +kernel
theorem d1_16 : decode prog_31_method_2_code 16 = .ok (.iconst 1, 1) := by decide +kernel
theorem d1_17 : decode prog_31_method_2_code 17 = .ok (.iand, 1) := by decide +kernel
theorem d1_18 : decode prog_31_method_2_code 18 = .ok (.ifCond .eq 7, 3) := by decide +kernel
theorem d1_21 : decode prog_31_method_2_code 21 = .ok (.iconst 1, 1) := by decide +kernel
theorem d1_22 : decode prog_31_method_2_code 22 = .ok (.goto 4, 3) := by decide +kernel
theorem pn_1 : plainName "com/example/bundlewright/bundlewright/core/Name" = true := by first | (simp [plainName, overriddenIn]; done) | decide +kernel
theorem d2_0 : decode method_2_code 0 = .ok (.iload_n 0, 1) := by decide +kernel
theorem d2_1 : decode method_2_code 1 = .ok (.bipush 97, 2) := by decide +kernel
theorem d2_3 : decode method_2_code 3 = .ok (.if_icmp .lt 11, 3) := by decide +kernel
theorem d2_14 : decode method_2_code 14 = .ok (.iload_n 0, 1) := by decide +kernel
theorem d2_15 : decode method_2_code 15 = .ok (.bipush 65, 2) := by decide +kernel
theorem d2_17 : decode method_2_code 17 = .ok (.if_icmp .lt 11, 3) := by decide +kernel
theorem d2_28 : decode method_2_code 28 = .ok (.iload_n 0, 1) := by decide +kernel
theorem d2_29 : decode method_2_code 29 = .ok (.bipush 95, 2) := by decide +kernel
theorem d2_31 : decode method_2_code 31 = .ok (.if_icmp .ne 5, 3) := by decide +kernel
theorem d2_34 : decode method_2_code 34 = .ok (.iconst 1, 1) := by decide +kernel
theorem d2_35 : decode method_2_code 35 = .ok (.ireturn, 1) := by decide +kernel
theorem d2_36 : decode method_2_code 36 = .ok (.iload_n 0, 1) := by decide +kernel
theorem d2_37 : decode method_2_code 37 = .ok (.bipush 58, 2) := by decide +kernel
theorem d2_39 : decode method_2_code 39 = .ok (.if_icmp .ne 5, 3) := by decide +kernel
theorem d2_42 : decode method_2_code 42 = .ok (.iconst 1, 1) := by decide +kernel
theorem d2_43 : decode method_2_code 43 = .ok (.ireturn, 1) := by decide +kernel
theorem d2_44 : decode method_2_code 44 = .ok (.iconst 0, 1) := by decide +kernel
theorem d2_45 : decode method_2_code 45 = .ok (.ireturn, 1) := by decide +kernel
theorem d2_20 : decode method_2_code 20 = .ok (.iload_n 0, 1) := by decide +kernel
theorem d2_21 : decode method_2_code 21 = .ok (.bipush 90, 2) := by decide +kernel
theorem d2_23 : decode method_2_code 23 = .ok (.if_icmp .gt 5, 3) := by decide +kernel
theorem d2_26 : decode method_2_code 26 = .ok (.iconst 1, 1) := by decide +kernel
theorem d2_27 : decode method_2_code 27 = .ok (.ireturn, 1) := by decide +kernel
theorem d2_6 : decode method_2_code 6 = .ok (.iload_n 0, 1) := by decide +kernel
theorem d2_7 : decode method_2_code 7 = .ok (.bipush 122, 2) := by decide +kernel
theorem d2_9 : decode method_2_code 9 = .ok (.if_icmp .gt 5, 3) := by decide +kernel
theorem d2_12 : decode method_2_code 12 = .ok (.iconst 1, 1) := by decide +kernel
theorem d2_13 : decode method_2_code 13 = .ok (.ireturn, 1) := by decide +kernel
theorem pn_2 : plainName "com/example/bundlewright/bundlewright/core/NameIsNameStartPinLaw" = true := by first | (simp [plainName, overriddenIn]; done) | decide +kernel
theorem pd__I_Z : parseMethodDescriptor "(I)Z" = some ⟨[.int], some .boolean⟩ := by decide +kernel
theorem pn_0 : plainName "com/example/bundlewright/bundlewright/core/NameIsNameStartPinLaw" = true := by first | (simp [plainName, overriddenIn]; done) | decide +kernel
theorem ef_rmN (m : MethodId) (p0 : Int32) : entryFrame m #[(.int p0)] 1 = mkF m 0 #[.val (.int p0)] [] := by first | (simp [entryFrame, mkF, argsToLocals, Value.category]; done) | rfl
set_option maxRecDepth 65536 in
set_option maxHeartbeats 40000000 in
theorem rmN (l : Launch) (Z : State) (a0 : Array Value) (hw : ∀ d ∈ tables_1, d.before a0 Z = true) (ws : List Jvm.Cond) (p0 : Int32) (wK : Addr) (cl : Cell) (h0 : Heap) (n0 : Nat) (Z0 : n0 ≤ h0.size) (P_S_Name_KIND : Sta Z h0 "com/example/bundlewright/bundlewright/core/Name" "KIND" "[B" (.ref wK)) (P_T_wK : Tab Z h0 wK cl .byte (128 : Int32)) :
    MetFree l (⟨"com/example/bundlewright/bundlewright/core/Name", "isNameStart", "(I)Z"⟩ : MethodName) (head1 (Jvm.Cond.code (⟨"com/example/bundlewright/bundlewright/core/Name", "isNameStart", "(I)Z"⟩ : MethodName) prog_31_method_2_code 1 (some .boolean) :: ws) ({ frames := 0, cells := 0, slots := 0, locals := 0 } : Room)) (fun a U => a = #[(.int p0)] ∧ Z.Warmed39 U.vm ∧ U.heap = h0) (fun _ _ _ _ _ => True) (fun _ U o U' => ∃ v L, o = .returned v ∧ own_QP (some (.int (own_ns cl p0))) h0 n0 v U'.heap L ∧ FrameEnd U o U' L ({ frames := 0, cells := 0, slots := 0, locals := 0 } : Room).cells ({ frames := 0, cells := 0, slots := 0, locals := 0 } : Room).slots) := by
  refine MetFree.of_bodySF (plainFor_of_name pn_1) hisR ?_
  intro p e s m args below meth c s₁ Bd hml0 hP hK
  obtain ⟨rfl, hZ, hh⟩ := hP
  have hx := Bd.exec
  have hby := Bd.bytes
  have hml : c.maxLocals = 1 := hml0
  have hown : s.vm.findClass "com/example/bundlewright/bundlewright/core/Name" = some m.cls := findClass_of_methodNamed Bd.named
  have hnm := (name_of_methodNamed Bd.named Bd.method).1
  have X0 : Stand p l e ({ frames := 0, cells := 0, slots := 0, locals := 0 } : Room) s m #[(.int p0)] below meth c s₁ [] 0 0 := Stand.of_body Bd
  have e0 : s₁.heap = h0 := by rw [← hh, Bd.state]; rfl
  have N0 := Fr.nil n0
  have pre0 : ∀ t, Steps p.tables e below (s₁.setTop (mkF m 0 #[.val (.int p0)] [])) t → Steps p.tables e below (s₁.setTop (entryFrame m #[(.int p0)] 1)) t := fun t k => castTop (ef_rmN m p0) k
  have pre2 : ∀ t, Steps p.tables e below (s₁.setTop (mkF m 1 #[.val (.int p0)] [(.int p0)])) t → Steps p.tables e below (s₁.setTop (entryFrame m #[(.int p0)] 1)) t := fun t kt => pre0 t (by
      show Steps p.tables e below (s₁.setTop (mkF m 0 #[.val (.int p0)] [])) _
      refine XS.iloadN X0.here hx rfl (hb hby d1_0) rfl ?_
      exact kt)
  by_cases hc1_1 : p0 < (0 : Int32)
  · obtain ⟨fs, hr, hrun, hended, hW, hsame⟩ := X0.leave (v := some (.int (0 : Int32))) (fun h => by rw [Bd.returns] at h; cases h)
    refine ⟨_, _, pre2 _ ?_, hrun, hended, _, _, rfl, ?_, ⟨_, rfl⟩, hW, hsame.mono (by decide) (by decide)⟩
    · show Steps p.tables e below (s₁.setTop (mkF m 1 #[.val (.int p0)] [(.int p0)])) _
      refine XS.ifYes X0.here hx rfl (pc0 := 1) (pc' := 25) rfl (hb hby d1_1) rfl ((if0 _ _).trans (tlt hc1_1).1) (by decide) (by decide) ?_
      show Steps p.tables e below (s₁.setTop (mkF m 25 #[.val (.int p0)] [])) _
      refine XS.iconst X0.here hx rfl (hb hby d1_25) ?_
      show Steps p.tables e below (s₁.setTop (mkF m 26 #[.val (.int p0)] [(.int (0 : Int32))])) _
      exact retN X0 hx (t := .boolean) Bd.returns (by simp) (hb hby d1_26) hr
    · show own_QP (some (.int (own_ns cl p0))) h0 n0 _ s₁.heap _
      rw [e0]
      exact ⟨(by first | rfl | simp [own_ns, hc1_1]), N0, rfl⟩
  · have pre4 : ∀ t, Steps p.tables e below (s₁.setTop (mkF m 8 #[.val (.int p0)] [(.int (128 : Int32)), (.int p0)])) t → Steps p.tables e below (s₁.setTop (entryFrame m #[(.int p0)] 1)) t := fun t kt => pre2 t (by
        show Steps p.tables e below (s₁.setTop (mkF m 1 #[.val (.int p0)] [(.int p0)])) _
        refine XS.ifNo X0.here hx rfl (hb hby d1_1) rfl ((if0 _ _).trans (flt hc1_1).1) ?_
        show Steps p.tables e below (s₁.setTop (mkF m 4 #[.val (.int p0)] [])) _
        refine XS.iloadN X0.here hx rfl (hb hby d1_4) rfl ?_
        show Steps p.tables e below (s₁.setTop (mkF m 5 #[.val (.int p0)] [(.int p0)])) _
        refine XS.sipush X0.here hx rfl (hb hby d1_5) ?_
        exact kt)
    by_cases hc8_3 : p0 < (128 : Int32)
    · obtain ⟨T5, X5, e5, st5⟩ := getS2 X0 hx hZ hown (host := "") (Or.inl (hw _ (List.mem_of_getElem? (i := 4) rfl))) Via.refl e0 P_S_Name_KIND (g := (mkF m 11 #[.val (.int p0)] [])) rfl (hb hby d1_11)
      have hin6 : ¬ (p0 < 0 ∨ cl.slots.size ≤ (p0).toNatClampNeg) := inb_of P_T_wK.2.1 ⟨hc1_1, hc8_3⟩
      have pre8 : ∀ t, Steps p.tables e below (T5.setTop (mkF m 18 #[.val (.int p0)] [(.int ((atv cl p0) &&& (1 : Int32)))])) t → Steps p.tables e below (s₁.setTop (entryFrame m #[(.int p0)] 1)) t := fun t kt => pre4 t (by
          show Steps p.tables e below (s₁.setTop (mkF m 8 #[.val (.int p0)] [(.int (128 : Int32)), (.int p0)])) _
          refine XS.icmpNo X0.here hx rfl (hb hby d1_8) rfl (tlt hc8_3).2.1 ?_
          show Steps p.tables e below (s₁.setTop (mkF m 11 #[.val (.int p0)] [])) _
          refine st5 _ ?_
          show Steps p.tables e below (T5.setTop (mkF m 14 #[.val (.int p0)] [(.ref wK)])) _
          refine XS.iloadN X5.here hx rfl (hb hby d1_14) rfl ?_
          show Steps p.tables e below (T5.setTop (mkF m 15 #[.val (.int p0)] [(.int p0), (.ref wK)])) _
          refine X5.baloadBytes hx (j := p0) (v := (.int (atv cl p0))) (by rw [e5]; exact P_T_wK.1.1) (State.isArrayOf_alike hZ.alike P_T_wK.1.2.1) P_T_wK.1.2.2 hin6 (P_T_wK.2.2.2 p0 hin6) (g := (mkF m 15 #[.val (.int p0)] [(.int p0), (.ref wK)])) rfl rfl (hb hby d1_15) _ ?_
          show Steps p.tables e below (T5.setTop (mkF m 16 #[.val (.int p0)] [(.int (atv cl p0))])) _
          refine XS.iconst X5.here hx rfl (hb hby d1_16) ?_
          show Steps p.tables e below (T5.setTop (mkF m 17 #[.val (.int p0)] [(.int (1 : Int32)), (.int (atv cl p0))])) _
          refine XS.iand X5.here hx rfl (hb hby d1_17) rfl ?_
          exact kt)
      by_cases hc18_7 : ((atv cl p0) &&& (1 : Int32)) = (0 : Int32)
      · obtain ⟨fs, hr, hrun, hended, hW, hsame⟩ := X5.leave (v := some (.int (0 : Int32))) (fun h => by rw [Bd.returns] at h; cases h)
        refine ⟨_, _, pre8 _ ?_, hrun, hended, _, _, rfl, ?_, ⟨_, rfl⟩, hW, hsame.mono (by decide) (by decide)⟩
        · show Steps p.tables e below (T5.setTop (mkF m 18 #[.val (.int p0)] [(.int ((atv cl p0) &&& (1 : Int32)))])) _
          refine XS.ifYes X5.here hx rfl (pc0 := 18) (pc' := 25) rfl (hb hby d1_18) rfl ((if0 _ _).trans (teq hc18_7).1) (by decide) (by decide) ?_
          show Steps p.tables e below (T5.setTop (mkF m 25 #[.val (.int p0)] [])) _
          refine XS.iconst X5.here hx rfl (hb hby d1_25) ?_
          show Steps p.tables e below (T5.setTop (mkF m 26 #[.val (.int p0)] [(.int (0 : Int32))])) _
          exact retN X5 hx (t := .boolean) Bd.returns (by simp) (hb hby d1_26) hr
        · show own_QP (some (.int (own_ns cl p0))) h0 n0 _ T5.heap _
          rw [e5]
          exact ⟨(by first | rfl | simp [own_ns, hc1_1, hc8_3, hc18_7]), N0, rfl⟩
      · obtain ⟨fs, hr, hrun, hended, hW, hsame⟩ := X5.leave (v := some (.int (1 : Int32))) (fun h => by rw [Bd.returns] at h; cases h)
        refine ⟨_, _, pre8 _ ?_, hrun, hended, _, _, rfl, ?_, ⟨_, rfl⟩, hW, hsame.mono (by decide) (by decide)⟩
        · show Steps p.tables e below (T5.setTop (mkF m 18 #[.val (.int p0)] [(.int ((atv cl p0) &&& (1 : Int32)))])) _
          refine XS.ifNo X5.here hx rfl (hb hby d1_18) rfl ((if0 _ _).trans (feq hc18_7).1) ?_
          show Steps p.tables e below (T5.setTop (mkF m 21 #[.val (.int p0)] [])) _
          refine XS.iconst X5.here hx rfl (hb hby d1_21) ?_
          show Steps p.tables e below (T5.setTop (mkF m 22 #[.val (.int p0)] [(.int (1 : Int32))])) _
          refine XS.goto X5.here hx rfl (pc0 := 22) (pc' := 26) rfl (hb hby d1_22) (by decide) (by decide) ?_
          show Steps p.tables e below (T5.setTop (mkF m 26 #[.val (.int p0)] [(.int (1 : Int32))])) _
          exact retN X5 hx (t := .boolean) Bd.returns (by simp) (hb hby d1_26) hr
        · show own_QP (some (.int (own_ns cl p0))) h0 n0 _ T5.heap _
          rw [e5]
          exact ⟨(by first | rfl | simp [own_ns, hc1_1, hc8_3, hc18_7]), N0, rfl⟩
    · obtain ⟨fs, hr, hrun, hended, hW, hsame⟩ := X0.leave (v := some (.int (0 : Int32))) (fun h => by rw [Bd.returns] at h; cases h)
      refine ⟨_, _, pre4 _ ?_, hrun, hended, _, _, rfl, ?_, ⟨_, rfl⟩, hW, hsame.mono (by decide) (by decide)⟩
      · show Steps p.tables e below (s₁.setTop (mkF m 8 #[.val (.int p0)] [(.int (128 : Int32)), (.int p0)])) _
        refine XS.icmpYes X0.here hx rfl (pc0 := 8) (pc' := 25) rfl (hb hby d1_8) rfl (flt hc8_3).2.1 (by decide) (by decide) ?_
        show Steps p.tables e below (s₁.setTop (mkF m 25 #[.val (.int p0)] [])) _
        refine XS.iconst X0.here hx rfl (hb hby d1_25) ?_
        show Steps p.tables e below (s₁.setTop (mkF m 26 #[.val (.int p0)] [(.int (0 : Int32))])) _
        exact retN X0 hx (t := .boolean) Bd.returns (by simp) (hb hby d1_26) hr
      · show own_QP (some (.int (own_ns cl p0))) h0 n0 _ s₁.heap _
        rw [e0]
        exact ⟨(by first | rfl | simp [own_ns, hc1_1, hc8_3]), N0, rfl⟩

theorem ef_rmR (m : MethodId) (p0 : Int32) : entryFrame m #[(.int p0)] 1 = mkF m 0 #[.val (.int p0)] [] := by first | (simp [entryFrame, mkF, argsToLocals, Value.category]; done) | rfl
set_option maxRecDepth 65536 in
set_option maxHeartbeats 40000000 in
theorem rmR (l : Launch) (Z : State) (a0 : Array Value) (hw : ∀ d ∈ tables_1, d.before a0 Z = true) (ws : List Jvm.Cond) (p0 : Int32) (h0 : Heap) (n0 : Nat) (Z0 : n0 ≤ h0.size) :
    MetFree l (⟨"com/example/bundlewright/bundlewright/core/NameIsNameStartPinLaw", "reference", "(I)Z"⟩ : MethodName) (head1 (Jvm.Cond.code (⟨"com/example/bundlewright/bundlewright/core/NameIsNameStartPinLaw", "reference", "(I)Z"⟩ : MethodName) method_2_code 1 (some .boolean) :: ws) ({ frames := 0, cells := 0, slots := 0, locals := 0 } : Room)) (fun a U => a = #[(.int p0)] ∧ Z.Warmed39 U.vm ∧ U.heap = h0) (fun _ _ _ _ _ => True) (fun _ U o U' => ∃ v L, o = .returned v ∧ own_QP (some (.int (own_ref p0))) h0 n0 v U'.heap L ∧ FrameEnd U o U' L ({ frames := 0, cells := 0, slots := 0, locals := 0 } : Room).cells ({ frames := 0, cells := 0, slots := 0, locals := 0 } : Room).slots) := by
  refine MetFree.of_bodySF (plainFor_of_name pn_2) hisR ?_
  intro p e s m args below meth c s₁ Bd hml0 hP hK
  obtain ⟨rfl, hZ, hh⟩ := hP
  have hx := Bd.exec
  have hby := Bd.bytes
  have hml : c.maxLocals = 1 := hml0
  have hown : s.vm.findClass "com/example/bundlewright/bundlewright/core/NameIsNameStartPinLaw" = some m.cls := findClass_of_methodNamed Bd.named
  have hnm := (name_of_methodNamed Bd.named Bd.method).1
  have X0 : Stand p l e ({ frames := 0, cells := 0, slots := 0, locals := 0 } : Room) s m #[(.int p0)] below meth c s₁ [] 0 0 := Stand.of_body Bd
  have e0 : s₁.heap = h0 := by rw [← hh, Bd.state]; rfl
  have N0 := Fr.nil n0
  have pre0 : ∀ t, Steps p.tables e below (s₁.setTop (mkF m 0 #[.val (.int p0)] [])) t → Steps p.tables e below (s₁.setTop (entryFrame m #[(.int p0)] 1)) t := fun t k => castTop (ef_rmR m p0) k
  have pre2 : ∀ t, Steps p.tables e below (s₁.setTop (mkF m 3 #[.val (.int p0)] [(.int (97 : Int32)), (.int p0)])) t → Steps p.tables e below (s₁.setTop (entryFrame m #[(.int p0)] 1)) t := fun t kt => pre0 t (by
      show Steps p.tables e below (s₁.setTop (mkF m 0 #[.val (.int p0)] [])) _
      refine XS.iloadN X0.here hx rfl (hb hby d2_0) rfl ?_
      show Steps p.tables e below (s₁.setTop (mkF m 1 #[.val (.int p0)] [(.int p0)])) _
      refine XS.bipush X0.here hx rfl (hb hby d2_1) ?_
      exact kt)
  by_cases hc3_1 : p0 < (97 : Int32)
  · have pre4 : ∀ t, Steps p.tables e below (s₁.setTop (mkF m 17 #[.val (.int p0)] [(.int (65 : Int32)), (.int p0)])) t → Steps p.tables e below (s₁.setTop (entryFrame m #[(.int p0)] 1)) t := fun t kt => pre2 t (by
        show Steps p.tables e below (s₁.setTop (mkF m 3 #[.val (.int p0)] [(.int (97 : Int32)), (.int p0)])) _
        refine XS.icmpYes X0.here hx rfl (pc0 := 3) (pc' := 14) rfl (hb hby d2_3) rfl (tlt hc3_1).1 (by decide) (by decide) ?_
        show Steps p.tables e below (s₁.setTop (mkF m 14 #[.val (.int p0)] [])) _
        refine XS.iloadN X0.here hx rfl (hb hby d2_14) rfl ?_
        show Steps p.tables e below (s₁.setTop (mkF m 15 #[.val (.int p0)] [(.int p0)])) _
        refine XS.bipush X0.here hx rfl (hb hby d2_15) ?_
        exact kt)
    by_cases hc17_3 : p0 < (65 : Int32)
    · have pre6 : ∀ t, Steps p.tables e below (s₁.setTop (mkF m 31 #[.val (.int p0)] [(.int (95 : Int32)), (.int p0)])) t → Steps p.tables e below (s₁.setTop (entryFrame m #[(.int p0)] 1)) t := fun t kt => pre4 t (by
          show Steps p.tables e below (s₁.setTop (mkF m 17 #[.val (.int p0)] [(.int (65 : Int32)), (.int p0)])) _
          refine XS.icmpYes X0.here hx rfl (pc0 := 17) (pc' := 28) rfl (hb hby d2_17) rfl (tlt hc17_3).1 (by decide) (by decide) ?_
          show Steps p.tables e below (s₁.setTop (mkF m 28 #[.val (.int p0)] [])) _
          refine XS.iloadN X0.here hx rfl (hb hby d2_28) rfl ?_
          show Steps p.tables e below (s₁.setTop (mkF m 29 #[.val (.int p0)] [(.int p0)])) _
          refine XS.bipush X0.here hx rfl (hb hby d2_29) ?_
          exact kt)
      by_cases hc31_5 : p0 = (95 : Int32)
      · obtain ⟨fs, hr, hrun, hended, hW, hsame⟩ := X0.leave (v := some (.int (1 : Int32))) (fun h => by rw [Bd.returns] at h; cases h)
        refine ⟨_, _, pre6 _ ?_, hrun, hended, _, _, rfl, ?_, ⟨_, rfl⟩, hW, hsame.mono (by decide) (by decide)⟩
        · show Steps p.tables e below (s₁.setTop (mkF m 31 #[.val (.int p0)] [(.int (95 : Int32)), (.int p0)])) _
          refine XS.icmpNo X0.here hx rfl (hb hby d2_31) rfl (teq hc31_5).2 ?_
          show Steps p.tables e below (s₁.setTop (mkF m 34 #[.val (.int p0)] [])) _
          refine XS.iconst X0.here hx rfl (hb hby d2_34) ?_
          show Steps p.tables e below (s₁.setTop (mkF m 35 #[.val (.int p0)] [(.int (1 : Int32))])) _
          exact retN X0 hx (t := .boolean) Bd.returns (by simp) (hb hby d2_35) hr
        · show own_QP (some (.int (own_ref p0))) h0 n0 _ s₁.heap _
          rw [e0]
          exact ⟨(by first | rfl | simp [own_ref, own_r2, own_r3, own_r4, hc3_1, hc17_3, hc31_5]), N0, rfl⟩
      · have pre8 : ∀ t, Steps p.tables e below (s₁.setTop (mkF m 39 #[.val (.int p0)] [(.int (58 : Int32)), (.int p0)])) t → Steps p.tables e below (s₁.setTop (entryFrame m #[(.int p0)] 1)) t := fun t kt => pre6 t (by
            show Steps p.tables e below (s₁.setTop (mkF m 31 #[.val (.int p0)] [(.int (95 : Int32)), (.int p0)])) _
            refine XS.icmpYes X0.here hx rfl (pc0 := 31) (pc' := 36) rfl (hb hby d2_31) rfl (feq hc31_5).2 (by decide) (by decide) ?_
            show Steps p.tables e below (s₁.setTop (mkF m 36 #[.val (.int p0)] [])) _
            refine XS.iloadN X0.here hx rfl (hb hby d2_36) rfl ?_
            show Steps p.tables e below (s₁.setTop (mkF m 37 #[.val (.int p0)] [(.int p0)])) _
            refine XS.bipush X0.here hx rfl (hb hby d2_37) ?_
            exact kt)
        by_cases hc39_7 : p0 = (58 : Int32)
        · obtain ⟨fs, hr, hrun, hended, hW, hsame⟩ := X0.leave (v := some (.int (1 : Int32))) (fun h => by rw [Bd.returns] at h; cases h)
          refine ⟨_, _, pre8 _ ?_, hrun, hended, _, _, rfl, ?_, ⟨_, rfl⟩, hW, hsame.mono (by decide) (by decide)⟩
          · show Steps p.tables e below (s₁.setTop (mkF m 39 #[.val (.int p0)] [(.int (58 : Int32)), (.int p0)])) _
            refine XS.icmpNo X0.here hx rfl (hb hby d2_39) rfl (teq hc39_7).2 ?_
            show Steps p.tables e below (s₁.setTop (mkF m 42 #[.val (.int p0)] [])) _
            refine XS.iconst X0.here hx rfl (hb hby d2_42) ?_
            show Steps p.tables e below (s₁.setTop (mkF m 43 #[.val (.int p0)] [(.int (1 : Int32))])) _
            exact retN X0 hx (t := .boolean) Bd.returns (by simp) (hb hby d2_43) hr
          · show own_QP (some (.int (own_ref p0))) h0 n0 _ s₁.heap _
            rw [e0]
            exact ⟨(by first | rfl | simp [own_ref, own_r2, own_r3, own_r4, hc3_1, hc17_3, hc31_5, hc39_7]), N0, rfl⟩
        · obtain ⟨fs, hr, hrun, hended, hW, hsame⟩ := X0.leave (v := some (.int (0 : Int32))) (fun h => by rw [Bd.returns] at h; cases h)
          refine ⟨_, _, pre8 _ ?_, hrun, hended, _, _, rfl, ?_, ⟨_, rfl⟩, hW, hsame.mono (by decide) (by decide)⟩
          · show Steps p.tables e below (s₁.setTop (mkF m 39 #[.val (.int p0)] [(.int (58 : Int32)), (.int p0)])) _
            refine XS.icmpYes X0.here hx rfl (pc0 := 39) (pc' := 44) rfl (hb hby d2_39) rfl (feq hc39_7).2 (by decide) (by decide) ?_
            show Steps p.tables e below (s₁.setTop (mkF m 44 #[.val (.int p0)] [])) _
            refine XS.iconst X0.here hx rfl (hb hby d2_44) ?_
            show Steps p.tables e below (s₁.setTop (mkF m 45 #[.val (.int p0)] [(.int (0 : Int32))])) _
            exact retN X0 hx (t := .boolean) Bd.returns (by simp) (hb hby d2_45) hr
          · show own_QP (some (.int (own_ref p0))) h0 n0 _ s₁.heap _
            rw [e0]
            exact ⟨(by first | rfl | simp [own_ref, own_r2, own_r3, own_r4, hc3_1, hc17_3, hc31_5, hc39_7]), N0, rfl⟩
    · have pre10 : ∀ t, Steps p.tables e below (s₁.setTop (mkF m 23 #[.val (.int p0)] [(.int (90 : Int32)), (.int p0)])) t → Steps p.tables e below (s₁.setTop (entryFrame m #[(.int p0)] 1)) t := fun t kt => pre4 t (by
          show Steps p.tables e below (s₁.setTop (mkF m 17 #[.val (.int p0)] [(.int (65 : Int32)), (.int p0)])) _
          refine XS.icmpNo X0.here hx rfl (hb hby d2_17) rfl (flt hc17_3).1 ?_
          show Steps p.tables e below (s₁.setTop (mkF m 20 #[.val (.int p0)] [])) _
          refine XS.iloadN X0.here hx rfl (hb hby d2_20) rfl ?_
          show Steps p.tables e below (s₁.setTop (mkF m 21 #[.val (.int p0)] [(.int p0)])) _
          refine XS.bipush X0.here hx rfl (hb hby d2_21) ?_
          exact kt)
      by_cases hc23_9 : (90 : Int32) < p0
      · have pre12 : ∀ t, Steps p.tables e below (s₁.setTop (mkF m 31 #[.val (.int p0)] [(.int (95 : Int32)), (.int p0)])) t → Steps p.tables e below (s₁.setTop (entryFrame m #[(.int p0)] 1)) t := fun t kt => pre10 t (by
            show Steps p.tables e below (s₁.setTop (mkF m 23 #[.val (.int p0)] [(.int (90 : Int32)), (.int p0)])) _
            refine XS.icmpYes X0.here hx rfl (pc0 := 23) (pc' := 28) rfl (hb hby d2_23) rfl (tlt hc23_9).2.2.1 (by decide) (by decide) ?_
            show Steps p.tables e below (s₁.setTop (mkF m 28 #[.val (.int p0)] [])) _
            refine XS.iloadN X0.here hx rfl (hb hby d2_28) rfl ?_
            show Steps p.tables e below (s₁.setTop (mkF m 29 #[.val (.int p0)] [(.int p0)])) _
            refine XS.bipush X0.here hx rfl (hb hby d2_29) ?_
            exact kt)
        by_cases hc31_11 : p0 = (95 : Int32)
        · obtain ⟨fs, hr, hrun, hended, hW, hsame⟩ := X0.leave (v := some (.int (1 : Int32))) (fun h => by rw [Bd.returns] at h; cases h)
          refine ⟨_, _, pre12 _ ?_, hrun, hended, _, _, rfl, ?_, ⟨_, rfl⟩, hW, hsame.mono (by decide) (by decide)⟩
          · show Steps p.tables e below (s₁.setTop (mkF m 31 #[.val (.int p0)] [(.int (95 : Int32)), (.int p0)])) _
            refine XS.icmpNo X0.here hx rfl (hb hby d2_31) rfl (teq hc31_11).2 ?_
            show Steps p.tables e below (s₁.setTop (mkF m 34 #[.val (.int p0)] [])) _
            refine XS.iconst X0.here hx rfl (hb hby d2_34) ?_
            show Steps p.tables e below (s₁.setTop (mkF m 35 #[.val (.int p0)] [(.int (1 : Int32))])) _
            exact retN X0 hx (t := .boolean) Bd.returns (by simp) (hb hby d2_35) hr
          · show own_QP (some (.int (own_ref p0))) h0 n0 _ s₁.heap _
            rw [e0]
            exact ⟨(by first | rfl | simp [own_ref, own_r2, own_r3, own_r4, hc3_1, hc17_3, hc23_9, hc31_11]), N0, rfl⟩
        · have pre14 : ∀ t, Steps p.tables e below (s₁.setTop (mkF m 39 #[.val (.int p0)] [(.int (58 : Int32)), (.int p0)])) t → Steps p.tables e below (s₁.setTop (entryFrame m #[(.int p0)] 1)) t := fun t kt => pre12 t (by
              show Steps p.tables e below (s₁.setTop (mkF m 31 #[.val (.int p0)] [(.int (95 : Int32)), (.int p0)])) _
              refine XS.icmpYes X0.here hx rfl (pc0 := 31) (pc' := 36) rfl (hb hby d2_31) rfl (feq hc31_11).2 (by decide) (by decide) ?_
              show Steps p.tables e below (s₁.setTop (mkF m 36 #[.val (.int p0)] [])) _
              refine XS.iloadN X0.here hx rfl (hb hby d2_36) rfl ?_
              show Steps p.tables e below (s₁.setTop (mkF m 37 #[.val (.int p0)] [(.int p0)])) _
              refine XS.bipush X0.here hx rfl (hb hby d2_37) ?_
              exact kt)
          by_cases hc39_13 : p0 = (58 : Int32)
          · obtain ⟨fs, hr, hrun, hended, hW, hsame⟩ := X0.leave (v := some (.int (1 : Int32))) (fun h => by rw [Bd.returns] at h; cases h)
            refine ⟨_, _, pre14 _ ?_, hrun, hended, _, _, rfl, ?_, ⟨_, rfl⟩, hW, hsame.mono (by decide) (by decide)⟩
            · show Steps p.tables e below (s₁.setTop (mkF m 39 #[.val (.int p0)] [(.int (58 : Int32)), (.int p0)])) _
              refine XS.icmpNo X0.here hx rfl (hb hby d2_39) rfl (teq hc39_13).2 ?_
              show Steps p.tables e below (s₁.setTop (mkF m 42 #[.val (.int p0)] [])) _
              refine XS.iconst X0.here hx rfl (hb hby d2_42) ?_
              show Steps p.tables e below (s₁.setTop (mkF m 43 #[.val (.int p0)] [(.int (1 : Int32))])) _
              exact retN X0 hx (t := .boolean) Bd.returns (by simp) (hb hby d2_43) hr
            · show own_QP (some (.int (own_ref p0))) h0 n0 _ s₁.heap _
              rw [e0]
              exact ⟨(by first | rfl | simp [own_ref, own_r2, own_r3, own_r4, hc3_1, hc17_3, hc23_9, hc31_11, hc39_13]), N0, rfl⟩
          · obtain ⟨fs, hr, hrun, hended, hW, hsame⟩ := X0.leave (v := some (.int (0 : Int32))) (fun h => by rw [Bd.returns] at h; cases h)
            refine ⟨_, _, pre14 _ ?_, hrun, hended, _, _, rfl, ?_, ⟨_, rfl⟩, hW, hsame.mono (by decide) (by decide)⟩
            · show Steps p.tables e below (s₁.setTop (mkF m 39 #[.val (.int p0)] [(.int (58 : Int32)), (.int p0)])) _
              refine XS.icmpYes X0.here hx rfl (pc0 := 39) (pc' := 44) rfl (hb hby d2_39) rfl (feq hc39_13).2 (by decide) (by decide) ?_
              show Steps p.tables e below (s₁.setTop (mkF m 44 #[.val (.int p0)] [])) _
              refine XS.iconst X0.here hx rfl (hb hby d2_44) ?_
              show Steps p.tables e below (s₁.setTop (mkF m 45 #[.val (.int p0)] [(.int (0 : Int32))])) _
              exact retN X0 hx (t := .boolean) Bd.returns (by simp) (hb hby d2_45) hr
            · show own_QP (some (.int (own_ref p0))) h0 n0 _ s₁.heap _
              rw [e0]
              exact ⟨(by first | rfl | simp [own_ref, own_r2, own_r3, own_r4, hc3_1, hc17_3, hc23_9, hc31_11, hc39_13]), N0, rfl⟩
      · obtain ⟨fs, hr, hrun, hended, hW, hsame⟩ := X0.leave (v := some (.int (1 : Int32))) (fun h => by rw [Bd.returns] at h; cases h)
        refine ⟨_, _, pre10 _ ?_, hrun, hended, _, _, rfl, ?_, ⟨_, rfl⟩, hW, hsame.mono (by decide) (by decide)⟩
        · show Steps p.tables e below (s₁.setTop (mkF m 23 #[.val (.int p0)] [(.int (90 : Int32)), (.int p0)])) _
          refine XS.icmpNo X0.here hx rfl (hb hby d2_23) rfl (flt hc23_9).2.2.1 ?_
          show Steps p.tables e below (s₁.setTop (mkF m 26 #[.val (.int p0)] [])) _
          refine XS.iconst X0.here hx rfl (hb hby d2_26) ?_
          show Steps p.tables e below (s₁.setTop (mkF m 27 #[.val (.int p0)] [(.int (1 : Int32))])) _
          exact retN X0 hx (t := .boolean) Bd.returns (by simp) (hb hby d2_27) hr
        · show own_QP (some (.int (own_ref p0))) h0 n0 _ s₁.heap _
          rw [e0]
          exact ⟨(by first | rfl | simp [own_ref, own_r2, own_r3, own_r4, hc3_1, hc17_3, hc23_9]), N0, rfl⟩
  · have pre16 : ∀ t, Steps p.tables e below (s₁.setTop (mkF m 9 #[.val (.int p0)] [(.int (122 : Int32)), (.int p0)])) t → Steps p.tables e below (s₁.setTop (entryFrame m #[(.int p0)] 1)) t := fun t kt => pre2 t (by
        show Steps p.tables e below (s₁.setTop (mkF m 3 #[.val (.int p0)] [(.int (97 : Int32)), (.int p0)])) _
        refine XS.icmpNo X0.here hx rfl (hb hby d2_3) rfl (flt hc3_1).1 ?_
        show Steps p.tables e below (s₁.setTop (mkF m 6 #[.val (.int p0)] [])) _
        refine XS.iloadN X0.here hx rfl (hb hby d2_6) rfl ?_
        show Steps p.tables e below (s₁.setTop (mkF m 7 #[.val (.int p0)] [(.int p0)])) _
        refine XS.bipush X0.here hx rfl (hb hby d2_7) ?_
        exact kt)
    by_cases hc9_15 : (122 : Int32) < p0
    · have pre18 : ∀ t, Steps p.tables e below (s₁.setTop (mkF m 17 #[.val (.int p0)] [(.int (65 : Int32)), (.int p0)])) t → Steps p.tables e below (s₁.setTop (entryFrame m #[(.int p0)] 1)) t := fun t kt => pre16 t (by
          show Steps p.tables e below (s₁.setTop (mkF m 9 #[.val (.int p0)] [(.int (122 : Int32)), (.int p0)])) _
          refine XS.icmpYes X0.here hx rfl (pc0 := 9) (pc' := 14) rfl (hb hby d2_9) rfl (tlt hc9_15).2.2.1 (by decide) (by decide) ?_
          show Steps p.tables e below (s₁.setTop (mkF m 14 #[.val (.int p0)] [])) _
          refine XS.iloadN X0.here hx rfl (hb hby d2_14) rfl ?_
          show Steps p.tables e below (s₁.setTop (mkF m 15 #[.val (.int p0)] [(.int p0)])) _
          refine XS.bipush X0.here hx rfl (hb hby d2_15) ?_
          exact kt)
      by_cases hc17_17 : p0 < (65 : Int32)
      · have pre20 : ∀ t, Steps p.tables e below (s₁.setTop (mkF m 31 #[.val (.int p0)] [(.int (95 : Int32)), (.int p0)])) t → Steps p.tables e below (s₁.setTop (entryFrame m #[(.int p0)] 1)) t := fun t kt => pre18 t (by
            show Steps p.tables e below (s₁.setTop (mkF m 17 #[.val (.int p0)] [(.int (65 : Int32)), (.int p0)])) _
            refine XS.icmpYes X0.here hx rfl (pc0 := 17) (pc' := 28) rfl (hb hby d2_17) rfl (tlt hc17_17).1 (by decide) (by decide) ?_
            show Steps p.tables e below (s₁.setTop (mkF m 28 #[.val (.int p0)] [])) _
            refine XS.iloadN X0.here hx rfl (hb hby d2_28) rfl ?_
            show Steps p.tables e below (s₁.setTop (mkF m 29 #[.val (.int p0)] [(.int p0)])) _
            refine XS.bipush X0.here hx rfl (hb hby d2_29) ?_
            exact kt)
        by_cases hc31_19 : p0 = (95 : Int32)
        · obtain ⟨fs, hr, hrun, hended, hW, hsame⟩ := X0.leave (v := some (.int (1 : Int32))) (fun h => by rw [Bd.returns] at h; cases h)
          refine ⟨_, _, pre20 _ ?_, hrun, hended, _, _, rfl, ?_, ⟨_, rfl⟩, hW, hsame.mono (by decide) (by decide)⟩
          · show Steps p.tables e below (s₁.setTop (mkF m 31 #[.val (.int p0)] [(.int (95 : Int32)), (.int p0)])) _
            refine XS.icmpNo X0.here hx rfl (hb hby d2_31) rfl (teq hc31_19).2 ?_
            show Steps p.tables e below (s₁.setTop (mkF m 34 #[.val (.int p0)] [])) _
            refine XS.iconst X0.here hx rfl (hb hby d2_34) ?_
            show Steps p.tables e below (s₁.setTop (mkF m 35 #[.val (.int p0)] [(.int (1 : Int32))])) _
            exact retN X0 hx (t := .boolean) Bd.returns (by simp) (hb hby d2_35) hr
          · show own_QP (some (.int (own_ref p0))) h0 n0 _ s₁.heap _
            rw [e0]
            exact ⟨(by first | rfl | simp [own_ref, own_r2, own_r3, own_r4, hc3_1, hc9_15, hc17_17, hc31_19]), N0, rfl⟩
        · have pre22 : ∀ t, Steps p.tables e below (s₁.setTop (mkF m 39 #[.val (.int p0)] [(.int (58 : Int32)), (.int p0)])) t → Steps p.tables e below (s₁.setTop (entryFrame m #[(.int p0)] 1)) t := fun t kt => pre20 t (by
              show Steps p.tables e below (s₁.setTop (mkF m 31 #[.val (.int p0)] [(.int (95 : Int32)), (.int p0)])) _
              refine XS.icmpYes X0.here hx rfl (pc0 := 31) (pc' := 36) rfl (hb hby d2_31) rfl (feq hc31_19).2 (by decide) (by decide) ?_
              show Steps p.tables e below (s₁.setTop (mkF m 36 #[.val (.int p0)] [])) _
              refine XS.iloadN X0.here hx rfl (hb hby d2_36) rfl ?_
              show Steps p.tables e below (s₁.setTop (mkF m 37 #[.val (.int p0)] [(.int p0)])) _
              refine XS.bipush X0.here hx rfl (hb hby d2_37) ?_
              exact kt)
          by_cases hc39_21 : p0 = (58 : Int32)
          · obtain ⟨fs, hr, hrun, hended, hW, hsame⟩ := X0.leave (v := some (.int (1 : Int32))) (fun h => by rw [Bd.returns] at h; cases h)
            refine ⟨_, _, pre22 _ ?_, hrun, hended, _, _, rfl, ?_, ⟨_, rfl⟩, hW, hsame.mono (by decide) (by decide)⟩
            · show Steps p.tables e below (s₁.setTop (mkF m 39 #[.val (.int p0)] [(.int (58 : Int32)), (.int p0)])) _
              refine XS.icmpNo X0.here hx rfl (hb hby d2_39) rfl (teq hc39_21).2 ?_
              show Steps p.tables e below (s₁.setTop (mkF m 42 #[.val (.int p0)] [])) _
              refine XS.iconst X0.here hx rfl (hb hby d2_42) ?_
              show Steps p.tables e below (s₁.setTop (mkF m 43 #[.val (.int p0)] [(.int (1 : Int32))])) _
              exact retN X0 hx (t := .boolean) Bd.returns (by simp) (hb hby d2_43) hr
            · show own_QP (some (.int (own_ref p0))) h0 n0 _ s₁.heap _
              rw [e0]
              exact ⟨(by first | rfl | simp [own_ref, own_r2, own_r3, own_r4, hc3_1, hc9_15, hc17_17, hc31_19, hc39_21]), N0, rfl⟩
          · obtain ⟨fs, hr, hrun, hended, hW, hsame⟩ := X0.leave (v := some (.int (0 : Int32))) (fun h => by rw [Bd.returns] at h; cases h)
            refine ⟨_, _, pre22 _ ?_, hrun, hended, _, _, rfl, ?_, ⟨_, rfl⟩, hW, hsame.mono (by decide) (by decide)⟩
            · show Steps p.tables e below (s₁.setTop (mkF m 39 #[.val (.int p0)] [(.int (58 : Int32)), (.int p0)])) _
              refine XS.icmpYes X0.here hx rfl (pc0 := 39) (pc' := 44) rfl (hb hby d2_39) rfl (feq hc39_21).2 (by decide) (by decide) ?_
              show Steps p.tables e below (s₁.setTop (mkF m 44 #[.val (.int p0)] [])) _
              refine XS.iconst X0.here hx rfl (hb hby d2_44) ?_
              show Steps p.tables e below (s₁.setTop (mkF m 45 #[.val (.int p0)] [(.int (0 : Int32))])) _
              exact retN X0 hx (t := .boolean) Bd.returns (by simp) (hb hby d2_45) hr
            · show own_QP (some (.int (own_ref p0))) h0 n0 _ s₁.heap _
              rw [e0]
              exact ⟨(by first | rfl | simp [own_ref, own_r2, own_r3, own_r4, hc3_1, hc9_15, hc17_17, hc31_19, hc39_21]), N0, rfl⟩
      · have pre24 : ∀ t, Steps p.tables e below (s₁.setTop (mkF m 23 #[.val (.int p0)] [(.int (90 : Int32)), (.int p0)])) t → Steps p.tables e below (s₁.setTop (entryFrame m #[(.int p0)] 1)) t := fun t kt => pre18 t (by
            show Steps p.tables e below (s₁.setTop (mkF m 17 #[.val (.int p0)] [(.int (65 : Int32)), (.int p0)])) _
            refine XS.icmpNo X0.here hx rfl (hb hby d2_17) rfl (flt hc17_17).1 ?_
            show Steps p.tables e below (s₁.setTop (mkF m 20 #[.val (.int p0)] [])) _
            refine XS.iloadN X0.here hx rfl (hb hby d2_20) rfl ?_
            show Steps p.tables e below (s₁.setTop (mkF m 21 #[.val (.int p0)] [(.int p0)])) _
            refine XS.bipush X0.here hx rfl (hb hby d2_21) ?_
            exact kt)
        by_cases hc23_23 : (90 : Int32) < p0
        · have pre26 : ∀ t, Steps p.tables e below (s₁.setTop (mkF m 31 #[.val (.int p0)] [(.int (95 : Int32)), (.int p0)])) t → Steps p.tables e below (s₁.setTop (entryFrame m #[(.int p0)] 1)) t := fun t kt => pre24 t (by
              show Steps p.tables e below (s₁.setTop (mkF m 23 #[.val (.int p0)] [(.int (90 : Int32)), (.int p0)])) _
              refine XS.icmpYes X0.here hx rfl (pc0 := 23) (pc' := 28) rfl (hb hby d2_23) rfl (tlt hc23_23).2.2.1 (by decide) (by decide) ?_
              show Steps p.tables e below (s₁.setTop (mkF m 28 #[.val (.int p0)] [])) _
              refine XS.iloadN X0.here hx rfl (hb hby d2_28) rfl ?_
              show Steps p.tables e below (s₁.setTop (mkF m 29 #[.val (.int p0)] [(.int p0)])) _
              refine XS.bipush X0.here hx rfl (hb hby d2_29) ?_
              exact kt)
          by_cases hc31_25 : p0 = (95 : Int32)
          · obtain ⟨fs, hr, hrun, hended, hW, hsame⟩ := X0.leave (v := some (.int (1 : Int32))) (fun h => by rw [Bd.returns] at h; cases h)
            refine ⟨_, _, pre26 _ ?_, hrun, hended, _, _, rfl, ?_, ⟨_, rfl⟩, hW, hsame.mono (by decide) (by decide)⟩
            · show Steps p.tables e below (s₁.setTop (mkF m 31 #[.val (.int p0)] [(.int (95 : Int32)), (.int p0)])) _
              refine XS.icmpNo X0.here hx rfl (hb hby d2_31) rfl (teq hc31_25).2 ?_
              show Steps p.tables e below (s₁.setTop (mkF m 34 #[.val (.int p0)] [])) _
              refine XS.iconst X0.here hx rfl (hb hby d2_34) ?_
              show Steps p.tables e below (s₁.setTop (mkF m 35 #[.val (.int p0)] [(.int (1 : Int32))])) _
              exact retN X0 hx (t := .boolean) Bd.returns (by simp) (hb hby d2_35) hr
            · show own_QP (some (.int (own_ref p0))) h0 n0 _ s₁.heap _
              rw [e0]
              exact ⟨(by first | rfl | simp [own_ref, own_r2, own_r3, own_r4, hc3_1, hc9_15, hc17_17, hc23_23, hc31_25]), N0, rfl⟩
          · have pre28 : ∀ t, Steps p.tables e below (s₁.setTop (mkF m 39 #[.val (.int p0)] [(.int (58 : Int32)), (.int p0)])) t → Steps p.tables e below (s₁.setTop (entryFrame m #[(.int p0)] 1)) t := fun t kt => pre26 t (by
                show Steps p.tables e below (s₁.setTop (mkF m 31 #[.val (.int p0)] [(.int (95 : Int32)), (.int p0)])) _
                refine XS.icmpYes X0.here hx rfl (pc0 := 31) (pc' := 36) rfl (hb hby d2_31) rfl (feq hc31_25).2 (by decide) (by decide) ?_
                show Steps p.tables e below (s₁.setTop (mkF m 36 #[.val (.int p0)] [])) _
                refine XS.iloadN X0.here hx rfl (hb hby d2_36) rfl ?_
                show Steps p.tables e below (s₁.setTop (mkF m 37 #[.val (.int p0)] [(.int p0)])) _
                refine XS.bipush X0.here hx rfl (hb hby d2_37) ?_
                exact kt)
            by_cases hc39_27 : p0 = (58 : Int32)
            · obtain ⟨fs, hr, hrun, hended, hW, hsame⟩ := X0.leave (v := some (.int (1 : Int32))) (fun h => by rw [Bd.returns] at h; cases h)
              refine ⟨_, _, pre28 _ ?_, hrun, hended, _, _, rfl, ?_, ⟨_, rfl⟩, hW, hsame.mono (by decide) (by decide)⟩
              · show Steps p.tables e below (s₁.setTop (mkF m 39 #[.val (.int p0)] [(.int (58 : Int32)), (.int p0)])) _
                refine XS.icmpNo X0.here hx rfl (hb hby d2_39) rfl (teq hc39_27).2 ?_
                show Steps p.tables e below (s₁.setTop (mkF m 42 #[.val (.int p0)] [])) _
                refine XS.iconst X0.here hx rfl (hb hby d2_42) ?_
                show Steps p.tables e below (s₁.setTop (mkF m 43 #[.val (.int p0)] [(.int (1 : Int32))])) _
                exact retN X0 hx (t := .boolean) Bd.returns (by simp) (hb hby d2_43) hr
              · show own_QP (some (.int (own_ref p0))) h0 n0 _ s₁.heap _
                rw [e0]
                exact ⟨(by first | rfl | simp [own_ref, own_r2, own_r3, own_r4, hc3_1, hc9_15, hc17_17, hc23_23, hc31_25, hc39_27]), N0, rfl⟩
            · obtain ⟨fs, hr, hrun, hended, hW, hsame⟩ := X0.leave (v := some (.int (0 : Int32))) (fun h => by rw [Bd.returns] at h; cases h)
              refine ⟨_, _, pre28 _ ?_, hrun, hended, _, _, rfl, ?_, ⟨_, rfl⟩, hW, hsame.mono (by decide) (by decide)⟩
              · show Steps p.tables e below (s₁.setTop (mkF m 39 #[.val (.int p0)] [(.int (58 : Int32)), (.int p0)])) _
                refine XS.icmpYes X0.here hx rfl (pc0 := 39) (pc' := 44) rfl (hb hby d2_39) rfl (feq hc39_27).2 (by decide) (by decide) ?_
                show Steps p.tables e below (s₁.setTop (mkF m 44 #[.val (.int p0)] [])) _
                refine XS.iconst X0.here hx rfl (hb hby d2_44) ?_
                show Steps p.tables e below (s₁.setTop (mkF m 45 #[.val (.int p0)] [(.int (0 : Int32))])) _
                exact retN X0 hx (t := .boolean) Bd.returns (by simp) (hb hby d2_45) hr
              · show own_QP (some (.int (own_ref p0))) h0 n0 _ s₁.heap _
                rw [e0]
                exact ⟨(by first | rfl | simp [own_ref, own_r2, own_r3, own_r4, hc3_1, hc9_15, hc17_17, hc23_23, hc31_25, hc39_27]), N0, rfl⟩
        · obtain ⟨fs, hr, hrun, hended, hW, hsame⟩ := X0.leave (v := some (.int (1 : Int32))) (fun h => by rw [Bd.returns] at h; cases h)
          refine ⟨_, _, pre24 _ ?_, hrun, hended, _, _, rfl, ?_, ⟨_, rfl⟩, hW, hsame.mono (by decide) (by decide)⟩
          · show Steps p.tables e below (s₁.setTop (mkF m 23 #[.val (.int p0)] [(.int (90 : Int32)), (.int p0)])) _
            refine XS.icmpNo X0.here hx rfl (hb hby d2_23) rfl (flt hc23_23).2.2.1 ?_
            show Steps p.tables e below (s₁.setTop (mkF m 26 #[.val (.int p0)] [])) _
            refine XS.iconst X0.here hx rfl (hb hby d2_26) ?_
            show Steps p.tables e below (s₁.setTop (mkF m 27 #[.val (.int p0)] [(.int (1 : Int32))])) _
            exact retN X0 hx (t := .boolean) Bd.returns (by simp) (hb hby d2_27) hr
          · show own_QP (some (.int (own_ref p0))) h0 n0 _ s₁.heap _
            rw [e0]
            exact ⟨(by first | rfl | simp [own_ref, own_r2, own_r3, own_r4, hc3_1, hc9_15, hc17_17, hc23_23]), N0, rfl⟩
    · obtain ⟨fs, hr, hrun, hended, hW, hsame⟩ := X0.leave (v := some (.int (1 : Int32))) (fun h => by rw [Bd.returns] at h; cases h)
      refine ⟨_, _, pre16 _ ?_, hrun, hended, _, _, rfl, ?_, ⟨_, rfl⟩, hW, hsame.mono (by decide) (by decide)⟩
      · show Steps p.tables e below (s₁.setTop (mkF m 9 #[.val (.int p0)] [(.int (122 : Int32)), (.int p0)])) _
        refine XS.icmpNo X0.here hx rfl (hb hby d2_9) rfl (flt hc9_15).2.2.1 ?_
        show Steps p.tables e below (s₁.setTop (mkF m 12 #[.val (.int p0)] [])) _
        refine XS.iconst X0.here hx rfl (hb hby d2_12) ?_
        show Steps p.tables e below (s₁.setTop (mkF m 13 #[.val (.int p0)] [(.int (1 : Int32))])) _
        exact retN X0 hx (t := .boolean) Bd.returns (by simp) (hb hby d2_13) hr
      · show own_QP (some (.int (own_ref p0))) h0 n0 _ s₁.heap _
        rw [e0]
        exact ⟨(by first | rfl | simp [own_ref, own_r2, own_r3, own_r4, hc3_1, hc9_15]), N0, rfl⟩

theorem ef_rm0 (m : MethodId) (p0 : Int32) (p1 : Int32) : entryFrame m #[(.int p0), (.int p1)] maxLocals = mkF m 0 #[.val (.int p0), .val (.int p1), .unset, .unset, .unset] [] := by first | (simp [entryFrame, mkF, argsToLocals, Value.category, maxLocals]; done) | rfl
set_option maxRecDepth 65536 in
set_option maxHeartbeats 40000000 in
theorem rm0 (l : Launch) (Z : State) (a0 : Array Value) (hw : ∀ d ∈ tables_1, d.before a0 Z = true) (ws : List Jvm.Cond) (p0 : Int32) (p1 : Int32) (wK : Addr) (cl : Cell) (h0 : Heap) (n0 : Nat) (Z0 : n0 ≤ h0.size) (P_S_Name_KIND : Sta Z h0 "com/example/bundlewright/bundlewright/core/Name" "KIND" "[B" (.ref wK)) (P_T_wK : Tab Z h0 wK cl .byte (128 : Int32)) (hKK : ∀ c : Int32, own_ns cl c = own_ref c) :
    MetFree l x (head1 (Jvm.Cond.code x code maxLocals ret :: ws) room_1) (fun a U => a = #[(.int p0), (.int p1)] ∧ Z.Warmed39 U.vm ∧ U.heap = h0) (fun _ _ _ _ _ => True) (fun _ U o U' => ∃ v L, o = .returned v ∧ own_Q0 n0 v U'.heap L ∧ FrameEnd U o U' L room_1.cells room_1.slots) := by
  refine MetFree.of_bodySF (plainFor_of_name pn_0) hisR ?_
  intro p e s m args below meth c s₁ Bd hml0 hP hK
  obtain ⟨rfl, hZ, hh⟩ := hP
  have hx := Bd.exec
  have hby := Bd.bytes
  have hml : c.maxLocals = 5 := hml0
  have hown : s.vm.findClass "com/example/bundlewright/bundlewright/core/NameIsNameStartPinLaw" = some m.cls := findClass_of_methodNamed Bd.named
  have hnm := (name_of_methodNamed Bd.named Bd.method).1
  have X0 : Stand p l e room_1 s m #[(.int p0), (.int p1)] below meth c s₁ [] 0 0 := Stand.of_body Bd
  have e0 : s₁.heap = h0 := by rw [← hh, Bd.state]; rfl
  have N0 := Fr.nil n0
  have pre0 : ∀ t, Steps p.tables e below (s₁.setTop (mkF m 0 #[.val (.int p0), .val (.int p1), .unset, .unset, .unset] [])) t → Steps p.tables e below (s₁.setTop (entryFrame m #[(.int p0), (.int p1)] maxLocals)) t := fun t k => castTop (ef_rm0 m p0 p1) k
  obtain ⟨_, _, ⟨T1, L1, k1, n1⟩, -, X1, ⟨Lc1, hQ1, l1, y1, z1⟩, st1⟩ := Jvm.LawKit.callS X0 hx (y := (⟨"com/example/bundlewright/bundlewright/core/Name", "isNameStart", "(I)Z"⟩ : MethodName)) hown (mvT hZ (hw _ (List.mem_of_getElem? (i := 0) rfl))) (mvT hZ (hw _ (List.mem_of_getElem? (i := 1) rfl))) (mvT hZ (hw _ (List.mem_of_getElem? (i := 2) rfl))) (mvT hZ (hw _ (List.mem_of_getElem? (i := 3) rfl))) (by decide) (backOf (W := 0) (rmN l Z a0 hw [] p0 wK cl h0 n0 Z0 P_S_Name_KIND P_T_wK) hZ (hw _ (List.mem_of_getElem? (i := 3) rfl)) (hw _ (List.mem_of_getElem? (i := 2) rfl)) (by decide) (by decide)) (g := (mkF m 9 #[.val (.int p0), .val (.int p1), .val (.int ((p1 &&& (255 : Int32)) - (1 : Int32))), .unset, .unset] [(.int p0)])) rfl (by rw [hml]; rfl) (argsL := [(.int p0)]) (rest := []) (lenOf pd__I_Z rfl) rfl (by show 2 * 0 + _ ≤ _; exact Nat.le_of_eq rfl) (hb hby at_9) (fun _ _ => ⟨rfl, e0, (by decide : 0 + 0 ≤ _), (by decide : 0 + 0 ≤ _)⟩)
  dsimp only [Pt.U, Pt.locs, Pt.cells, Pt.slots] at X1 l1 y1 z1 st1 hQ1
  subst l1 y1 z1
  obtain ⟨rfl, N1q, e1⟩ := hQ1
  have N1 := Fr.app N0 N1q
  obtain ⟨_, _, ⟨T2, L2, k2, n2⟩, -, X2, ⟨Lc2, hQ2, l2, y2, z2⟩, st2⟩ := Jvm.LawKit.callS X1 hx (y := (⟨"com/example/bundlewright/bundlewright/core/NameIsNameStartPinLaw", "reference", "(I)Z"⟩ : MethodName)) hown (mvT hZ (hw _ (List.mem_of_getElem? (i := 6) rfl))) (mvT hZ (hw _ (List.mem_of_getElem? (i := 7) rfl))) (mvT hZ (hw _ (List.mem_of_getElem? (i := 8) rfl))) (mvT hZ (hw _ (List.mem_of_getElem? (i := 9) rfl))) (by decide) (backOf (W := 1) (rmR l Z a0 hw [] p0 h0 n0 Z0 ) hZ (hw _ (List.mem_of_getElem? (i := 9) rfl)) (hw _ (List.mem_of_getElem? (i := 8) rfl)) (by decide) (by decide)) (g := (mkF m 13 #[.val (.int p0), .val (.int p1), .val (.int ((p1 &&& (255 : Int32)) - (1 : Int32))), .unset, .unset] [(.int p0), (.int (own_ns cl p0))])) rfl (by rw [hml]; rfl) (argsL := [(.int p0)]) (rest := [(.int (own_ns cl p0))]) (lenOf pd__I_Z rfl) rfl (by show 2 * 0 + _ ≤ _; exact Nat.le_of_eq rfl) (hb hby at_13) (fun _ _ => ⟨rfl, e1, (by decide : 0 + 0 ≤ _), (by decide : 0 + 0 ≤ _)⟩)
  dsimp only [Pt.U, Pt.locs, Pt.cells, Pt.slots] at X2 l2 y2 z2 st2 hQ2
  subst l2 y2 z2
  obtain ⟨rfl, N2q, e2⟩ := hQ2
  have N2 := Fr.app N1 N2q
  obtain ⟨_, _, ⟨T3, L3, k3, n3⟩, -, X3, ⟨Lc3, hQ3, l3, y3, z3⟩, st3⟩ := Jvm.LawKit.callS X2 hx (y := (⟨"com/example/bundlewright/bundlewright/core/Name", "isNameStart", "(I)Z"⟩ : MethodName)) hown (mvT hZ (hw _ (List.mem_of_getElem? (i := 0) rfl))) (mvT hZ (hw _ (List.mem_of_getElem? (i := 1) rfl))) (mvT hZ (hw _ (List.mem_of_getElem? (i := 2) rfl))) (mvT hZ (hw _ (List.mem_of_getElem? (i := 3) rfl))) (by decide) (backOf (W := 0) (rmN l Z a0 hw [] ((p1 &&& (255 : Int32)) - (1 : Int32)) wK cl h0 n0 Z0 P_S_Name_KIND P_T_wK) hZ (hw _ (List.mem_of_getElem? (i := 3) rfl)) (hw _ (List.mem_of_getElem? (i := 2) rfl)) (by decide) (by decide)) (g := (mkF m 26 #[.val (.int p0), .val (.int p1), .val (.int ((p1 &&& (255 : Int32)) - (1 : Int32))), .val (.int (1 : Int32)), .unset] [(.int ((p1 &&& (255 : Int32)) - (1 : Int32)))])) rfl (by rw [hml]; rfl) (argsL := [(.int ((p1 &&& (255 : Int32)) - (1 : Int32)))]) (rest := []) (lenOf pd__I_Z rfl) rfl (by show 2 * 0 + _ ≤ _; exact Nat.le_of_eq rfl) (hb hby at_26) (fun _ _ => ⟨rfl, e2, (by decide : 0 + 0 ≤ _), (by decide : 0 + 0 ≤ _)⟩)
  dsimp only [Pt.U, Pt.locs, Pt.cells, Pt.slots] at X3 l3 y3 z3 st3 hQ3
  subst l3 y3 z3
  obtain ⟨rfl, N3q, e3⟩ := hQ3
  have N3 := Fr.app N2 N3q
  obtain ⟨_, _, ⟨T4, L4, k4, n4⟩, -, X4, ⟨Lc4, hQ4, l4, y4, z4⟩, st4⟩ := Jvm.LawKit.callS X3 hx (y := (⟨"com/example/bundlewright/bundlewright/core/NameIsNameStartPinLaw", "reference", "(I)Z"⟩ : MethodName)) hown (mvT hZ (hw _ (List.mem_of_getElem? (i := 6) rfl))) (mvT hZ (hw _ (List.mem_of_getElem? (i := 7) rfl))) (mvT hZ (hw _ (List.mem_of_getElem? (i := 8) rfl))) (mvT hZ (hw _ (List.mem_of_getElem? (i := 9) rfl))) (by decide) (backOf (W := 1) (rmR l Z a0 hw [] ((p1 &&& (255 : Int32)) - (1 : Int32)) h0 n0 Z0 ) hZ (hw _ (List.mem_of_getElem? (i := 9) rfl)) (hw _ (List.mem_of_getElem? (i := 8) rfl)) (by decide) (by decide)) (g := (mkF m 30 #[.val (.int p0), .val (.int p1), .val (.int ((p1 &&& (255 : Int32)) - (1 : Int32))), .val (.int (1 : Int32)), .unset] [(.int ((p1 &&& (255 : Int32)) - (1 : Int32))), (.int (own_ns cl ((p1 &&& (255 : Int32)) - (1 : Int32))))])) rfl (by rw [hml]; rfl) (argsL := [(.int ((p1 &&& (255 : Int32)) - (1 : Int32)))]) (rest := [(.int (own_ns cl ((p1 &&& (255 : Int32)) - (1 : Int32))))]) (lenOf pd__I_Z rfl) rfl (by show 2 * 0 + _ ≤ _; exact Nat.le_of_eq rfl) (hb hby at_30) (fun _ _ => ⟨rfl, e3, (by decide : 0 + 0 ≤ _), (by decide : 0 + 0 ≤ _)⟩)
  dsimp only [Pt.U, Pt.locs, Pt.cells, Pt.slots] at X4 l4 y4 z4 st4 hQ4
  subst l4 y4 z4
  obtain ⟨rfl, N4q, e4⟩ := hQ4
  have N4 := Fr.app N3 N4q
  obtain ⟨fs, hr, hrun, hended, hW, hsame⟩ := X4.leave (v := some (.int (1 : Int32))) (fun h => by rw [Bd.returns] at h; cases h)
  refine ⟨_, _, pre0 _ ?_, hrun, hended, _, _, rfl, ?_, ⟨_, rfl⟩, hW, hsame.mono (by decide) (by decide)⟩
  · show Steps p.tables e below (s₁.setTop (mkF m 0 #[.val (.int p0), .val (.int p1), .unset, .unset, .unset] [])) _
    refine XS.iloadN X0.here hx rfl (hb hby at_0) rfl ?_
    show Steps p.tables e below (s₁.setTop (mkF m 1 #[.val (.int p0), .val (.int p1), .unset, .unset, .unset] [(.int p1)])) _
    refine XS.sipush X0.here hx rfl (hb hby at_1) ?_
    show Steps p.tables e below (s₁.setTop (mkF m 4 #[.val (.int p0), .val (.int p1), .unset, .unset, .unset] [(.int (255 : Int32)), (.int p1)])) _
    refine XS.iand X0.here hx rfl (hb hby at_4) rfl ?_
    show Steps p.tables e below (s₁.setTop (mkF m 5 #[.val (.int p0), .val (.int p1), .unset, .unset, .unset] [(.int (p1 &&& (255 : Int32)))])) _
    refine XS.iconst X0.here hx rfl (hb hby at_5) ?_
    show Steps p.tables e below (s₁.setTop (mkF m 6 #[.val (.int p0), .val (.int p1), .unset, .unset, .unset] [(.int (1 : Int32)), (.int (p1 &&& (255 : Int32)))])) _
    refine XS.isub X0.here hx rfl (hb hby at_6) rfl ?_
    show Steps p.tables e below (s₁.setTop (mkF m 7 #[.val (.int p0), .val (.int p1), .unset, .unset, .unset] [(.int ((p1 &&& (255 : Int32)) - (1 : Int32)))])) _
    refine XS.istoreN X0.here hx rfl (hb hby at_7) rfl (l' := #[.val (.int p0), .val (.int p1), .val (.int ((p1 &&& (255 : Int32)) - (1 : Int32))), .unset, .unset]) rfl ?_
    show Steps p.tables e below (s₁.setTop (mkF m 8 #[.val (.int p0), .val (.int p1), .val (.int ((p1 &&& (255 : Int32)) - (1 : Int32))), .unset, .unset] [])) _
    refine XS.iloadN X0.here hx rfl (hb hby at_8) rfl ?_
    show Steps p.tables e below (s₁.setTop (mkF m 9 #[.val (.int p0), .val (.int p1), .val (.int ((p1 &&& (255 : Int32)) - (1 : Int32))), .unset, .unset] [(.int p0)])) _
    refine st1 _ ?_
    show Steps p.tables e below (T1.setTop (mkF m 12 #[.val (.int p0), .val (.int p1), .val (.int ((p1 &&& (255 : Int32)) - (1 : Int32))), .unset, .unset] [(.int (own_ns cl p0))])) _
    refine XS.iloadN X1.here hx rfl (hb hby at_12) rfl ?_
    show Steps p.tables e below (T1.setTop (mkF m 13 #[.val (.int p0), .val (.int p1), .val (.int ((p1 &&& (255 : Int32)) - (1 : Int32))), .unset, .unset] [(.int p0), (.int (own_ns cl p0))])) _
    refine st2 _ ?_
    show Steps p.tables e below (T2.setTop (mkF m 16 #[.val (.int p0), .val (.int p1), .val (.int ((p1 &&& (255 : Int32)) - (1 : Int32))), .unset, .unset] [(.int (own_ref p0)), (.int (own_ns cl p0))])) _
    refine XS.icmpNo X2.here hx rfl (hb hby at_16) rfl (teq (hKK p0)).2 ?_
    show Steps p.tables e below (T2.setTop (mkF m 19 #[.val (.int p0), .val (.int p1), .val (.int ((p1 &&& (255 : Int32)) - (1 : Int32))), .unset, .unset] [])) _
    refine XS.iconst X2.here hx rfl (hb hby at_19) ?_
    show Steps p.tables e below (T2.setTop (mkF m 20 #[.val (.int p0), .val (.int p1), .val (.int ((p1 &&& (255 : Int32)) - (1 : Int32))), .unset, .unset] [(.int (1 : Int32))])) _
    refine XS.goto X2.here hx rfl (pc0 := 20) (pc' := 24) rfl (hb hby at_20) (by decide) (by decide) ?_
    show Steps p.tables e below (T2.setTop (mkF m 24 #[.val (.int p0), .val (.int p1), .val (.int ((p1 &&& (255 : Int32)) - (1 : Int32))), .unset, .unset] [(.int (1 : Int32))])) _
    refine XS.istoreN X2.here hx rfl (hb hby at_24) rfl (l' := #[.val (.int p0), .val (.int p1), .val (.int ((p1 &&& (255 : Int32)) - (1 : Int32))), .val (.int (1 : Int32)), .unset]) rfl ?_
    show Steps p.tables e below (T2.setTop (mkF m 25 #[.val (.int p0), .val (.int p1), .val (.int ((p1 &&& (255 : Int32)) - (1 : Int32))), .val (.int (1 : Int32)), .unset] [])) _
    refine XS.iloadN X2.here hx rfl (hb hby at_25) rfl ?_
    show Steps p.tables e below (T2.setTop (mkF m 26 #[.val (.int p0), .val (.int p1), .val (.int ((p1 &&& (255 : Int32)) - (1 : Int32))), .val (.int (1 : Int32)), .unset] [(.int ((p1 &&& (255 : Int32)) - (1 : Int32)))])) _
    refine st3 _ ?_
    show Steps p.tables e below (T3.setTop (mkF m 29 #[.val (.int p0), .val (.int p1), .val (.int ((p1 &&& (255 : Int32)) - (1 : Int32))), .val (.int (1 : Int32)), .unset] [(.int (own_ns cl ((p1 &&& (255 : Int32)) - (1 : Int32))))])) _
    refine XS.iloadN X3.here hx rfl (hb hby at_29) rfl ?_
    show Steps p.tables e below (T3.setTop (mkF m 30 #[.val (.int p0), .val (.int p1), .val (.int ((p1 &&& (255 : Int32)) - (1 : Int32))), .val (.int (1 : Int32)), .unset] [(.int ((p1 &&& (255 : Int32)) - (1 : Int32))), (.int (own_ns cl ((p1 &&& (255 : Int32)) - (1 : Int32))))])) _
    refine st4 _ ?_
    show Steps p.tables e below (T4.setTop (mkF m 33 #[.val (.int p0), .val (.int p1), .val (.int ((p1 &&& (255 : Int32)) - (1 : Int32))), .val (.int (1 : Int32)), .unset] [(.int (own_ref ((p1 &&& (255 : Int32)) - (1 : Int32)))), (.int (own_ns cl ((p1 &&& (255 : Int32)) - (1 : Int32))))])) _
    refine XS.icmpNo X4.here hx rfl (hb hby at_33) rfl (teq (hKK ((p1 &&& (255 : Int32)) - (1 : Int32)))).2 ?_
    show Steps p.tables e below (T4.setTop (mkF m 36 #[.val (.int p0), .val (.int p1), .val (.int ((p1 &&& (255 : Int32)) - (1 : Int32))), .val (.int (1 : Int32)), .unset] [])) _
    refine XS.iconst X4.here hx rfl (hb hby at_36) ?_
    show Steps p.tables e below (T4.setTop (mkF m 37 #[.val (.int p0), .val (.int p1), .val (.int ((p1 &&& (255 : Int32)) - (1 : Int32))), .val (.int (1 : Int32)), .unset] [(.int (1 : Int32))])) _
    refine XS.goto X4.here hx rfl (pc0 := 37) (pc' := 41) rfl (hb hby at_37) (by decide) (by decide) ?_
    show Steps p.tables e below (T4.setTop (mkF m 41 #[.val (.int p0), .val (.int p1), .val (.int ((p1 &&& (255 : Int32)) - (1 : Int32))), .val (.int (1 : Int32)), .unset] [(.int (1 : Int32))])) _
    refine XS.istore X4.here hx rfl (hb hby at_41) rfl (l' := #[.val (.int p0), .val (.int p1), .val (.int ((p1 &&& (255 : Int32)) - (1 : Int32))), .val (.int (1 : Int32)), .val (.int (1 : Int32))]) rfl ?_
    show Steps p.tables e below (T4.setTop (mkF m 43 #[.val (.int p0), .val (.int p1), .val (.int ((p1 &&& (255 : Int32)) - (1 : Int32))), .val (.int (1 : Int32)), .val (.int (1 : Int32))] [])) _
    refine XS.iloadN X4.here hx rfl (hb hby at_43) rfl ?_
    show Steps p.tables e below (T4.setTop (mkF m 44 #[.val (.int p0), .val (.int p1), .val (.int ((p1 &&& (255 : Int32)) - (1 : Int32))), .val (.int (1 : Int32)), .val (.int (1 : Int32))] [(.int (1 : Int32))])) _
    refine XS.ifNo X4.here hx rfl (hb hby at_44) rfl ((if0 _ _).trans (feq (by decide : ¬ ((1 : Int32) = (0 : Int32)))).1) ?_
    show Steps p.tables e below (T4.setTop (mkF m 47 #[.val (.int p0), .val (.int p1), .val (.int ((p1 &&& (255 : Int32)) - (1 : Int32))), .val (.int (1 : Int32)), .val (.int (1 : Int32))] [])) _
    refine XS.iload X4.here hx rfl (hb hby at_47) rfl ?_
    show Steps p.tables e below (T4.setTop (mkF m 49 #[.val (.int p0), .val (.int p1), .val (.int ((p1 &&& (255 : Int32)) - (1 : Int32))), .val (.int (1 : Int32)), .val (.int (1 : Int32))] [(.int (1 : Int32))])) _
    refine XS.ifNo X4.here hx rfl (hb hby at_49) rfl ((if0 _ _).trans (feq (by decide : ¬ ((1 : Int32) = (0 : Int32)))).1) ?_
    show Steps p.tables e below (T4.setTop (mkF m 52 #[.val (.int p0), .val (.int p1), .val (.int ((p1 &&& (255 : Int32)) - (1 : Int32))), .val (.int (1 : Int32)), .val (.int (1 : Int32))] [])) _
    refine XS.iconst X4.here hx rfl (hb hby at_52) ?_
    show Steps p.tables e below (T4.setTop (mkF m 53 #[.val (.int p0), .val (.int p1), .val (.int ((p1 &&& (255 : Int32)) - (1 : Int32))), .val (.int (1 : Int32)), .val (.int (1 : Int32))] [(.int (1 : Int32))])) _
    refine XS.goto X4.here hx rfl (pc0 := 53) (pc' := 57) rfl (hb hby at_53) (by decide) (by decide) ?_
    show Steps p.tables e below (T4.setTop (mkF m 57 #[.val (.int p0), .val (.int p1), .val (.int ((p1 &&& (255 : Int32)) - (1 : Int32))), .val (.int (1 : Int32)), .val (.int (1 : Int32))] [(.int (1 : Int32))])) _
    exact retN X4 hx (t := .boolean) Bd.returns (by simp) (hb hby at_57) hr
  · show own_Q0 n0 _ T4.heap _
    rw [e4]
    exact ⟨rfl, N4⟩

set_option maxRecDepth 65536 in
set_option maxHeartbeats 40000000 in
theorem comes_1 {Post : Tables → Env → Array Value → State → Outcome → State → Prop} (hpost : ∀ tb e args s v u, (limb_1_1.after args s (.returned v) u = true ∧ limb_1_2.after args s (.returned v) u = true ∧ True) → FrameEnd s (.returned v) u (Jvm.fieldLocs frame_1_writes args s ++ Jvm.arrayLocs frame_1_arrays args s ++ Jvm.staticLocs frame_1_statics s) 0 0 → Post tb e args s (.returned v) u) :
    ArmFor flags0 classFile x code maxLocals ret World_1 tables_1 room_1 Calls_1 rest_1 Pre_1 Post := by
  intro l hfl _ _ p e ha hc hk s m args below hf hA hF happ hP
  obtain ⟨hcalls, hrest, hpre⟩ := hP
  obtain ⟨-, -, -, hnamed, -, -, -, hat⟩ := (Spec.applies_iff hf).mp happ
  obtain ⟨hg, hn⟩ := and_e (Cond.before_iff.mp (show (Jvm.Cond.and given_1 narrow_1).before args s = true from hpre))
  obtain ⟨g0, gr1⟩ := and_e hg
  obtain ⟨g1, g2⟩ := and_e gr1
  obtain ⟨k0, kr1⟩ := and_e hn
  obtain ⟨k1, kr2⟩ := and_e kr1
  obtain ⟨k2, kr3⟩ := and_e kr2
  obtain ⟨k3, kr4⟩ := and_e kr3
  obtain ⟨k4, kr5⟩ := and_e kr4
  obtain ⟨k5, kr6⟩ := and_e kr5
  obtain ⟨k6, kr7⟩ := and_e kr6
  obtain ⟨k7, kr8⟩ := and_e kr7
  obtain ⟨k8, kr9⟩ := and_e kr8
  obtain ⟨k9, kr10⟩ := and_e kr9
  obtain ⟨k10, kr11⟩ := and_e kr10
  obtain ⟨k11, kr12⟩ := and_e kr11
  obtain ⟨k12, kr13⟩ := and_e kr12
  obtain ⟨k13, k14⟩ := and_e kr13
  obtain ⟨w0, w1, rfl⟩ : ∃ w0 w1 : Value, args = #[w0, w1] := by
    have hs : args.size = 2 := by simpa [Cond.value, given_1] using g0
    obtain ⟨L⟩ := args
    match L, hs with
    | [w0, w1], _ => exact ⟨w0, w1, rfl⟩
  have hw := fun d (hd : d ∈ tables_1) => atoms_spec (ws := Jvm.Cond.code x code maxLocals ret :: tables_1) hat d (List.mem_cons_of_mem _ hd)
  have hfit : Fit s := fun {y c} hc i hi => by
    obtain ⟨ha, rfl⟩ := Array.getElem?_eq_some_iff.mp hc
    have q := List.all_eq_true.mp ((Array.all_eq_true_iff_forall_mem.mp hF) _ (Array.getElem_mem ha)) i (List.mem_range.mpr hi)
    simpa [Array.getElem?_eq_getElem hi] using q
  obtain ⟨i0, ei0⟩ := is_v g1
  obtain rfl : w0 = (.int i0) := Option.some.inj ei0
  obtain ⟨i1, ei1⟩ := is_v g2
  obtain rfl : w1 = (.int i1) := Option.some.inj ei1
  obtain ⟨wK, eK⟩ := arr_v k0
  have eA : ∀ idx, (Term.static "com/example/bundlewright/bundlewright/core/Name" "KIND" "[B").eval #[.int i0, .int i1] s none idx s = some (.ref wK) := fun _ => eK
  obtain ⟨cl, A0⟩ := Arr.start eK k0
  obtain ⟨z1, z2⟩ := own_len (own_eqI k1) eK A0
  have T0 : Tab s s.heap wK cl .byte (128 : Int32) := Tab.start hfit A0 (Or.inr (Or.inr (Or.inl rfl))) z1 z2 (by decide)
  have hK : ∀ c : Int32, own_ns cl c = own_ref c := own_pure fun j h0 h1 => by
    have d2 := own_low T0 eA h0 h1 k2
    have d3 := own_at (j := j) T0 eA (by decide) (by decide) k3
    have d4 := own_at (j := j) T0 eA (by decide) (by decide) k4
    have d5 := own_at (j := j) T0 eA (by decide) (by decide) k5
    have d6 := own_rng T0 eA h0 h1 k6
    have d7 := own_at (j := j) T0 eA (by decide) (by decide) k7
    have d8 := own_rng T0 eA h0 h1 k8
    have d9 := own_rng T0 eA h0 h1 k9
    have d10 := own_rng T0 eA h0 h1 k10
    have d11 := own_at (j := j) T0 eA (by decide) (by decide) k11
    have d12 := own_at (j := j) T0 eA (by decide) (by decide) k12
    have d13 := own_rng T0 eA h0 h1 k13
    have d14 := own_up T0 eA h0 h1 k14
    rw [Int32.lt_iff_toInt_lt] at h0 h1
    simp only [Int32.reduceToInt] at h0 h1 d2 d3 d4 d5 d6 d7 d8 d9 d10 d11 d12 d13 d14
    unfold own_kind
    repeat' split
    all_goals omega
  obtain ⟨n, o, h1, h2, h3, _, L, rfl, ⟨rfl, N⟩, hq⟩ := rm0 l s _ hw tables_1 i0 i1 wK cl s.heap s.heap.size (Nat.le_refl _) (Sta.start eK (Or.inr ⟨(hw _ (List.mem_of_getElem? (i := 2) rfl)), (hw _ (List.mem_of_getElem? (i := 5) rfl))⟩)) T0 hK p e ha hc hk s m _ below hf ((Spec.applies_iff_loose hf).mp happ).1 ⟨rfl, State.Warmed39.refl s, rfl⟩ trivial
  refine ⟨n, _, h1, h2, h3, hpost _ _ _ _ _ _ ⟨Cond.after_iff.mpr rfl, Cond.after_iff.mpr (eq_i res_at (Term.int_eval (1)) rfl), trivial⟩ ⟨hq.1, hq.2.1, (hq.2.2.sift fun y hy => Or.inr (N y hy)).mono (by decide) (by decide)⟩⟩
theorem main_1_1 : Claimed_1_1 := comes_1 fun _ _ _ _ _ _ h hF => ⟨h.1, hF⟩
theorem main_1_2 : Claimed_1_2 := comes_1 fun _ _ _ _ _ _ h hF => ⟨h.2.1, hF⟩
end Jvm.Pilot.@@N@@
namespace Jvm.Pilot.@@N@@
open Jvm Jvm.ClassFile Sem Op Lib Jvm.Free Jvm.Stand Jvm.Pilot.@@N@@.Jvm.D
/-! MADE BY PROGRAM (witnessworld.py) out of the Statement's table words and the real class files: 9 classes; the members and pool entries that the words name. The judged class is class 1, her method 2. -/
namespace start1
open Jvm.ClassFile
def u (s : String) : CpInfo := .utf8 (stringToUtf16 s)
/-- a pool by its gaps: so many unusable entries, then the entry; so many at the end -/
def gap : Nat → List CpInfo → List CpInfo
  | 0, r => r
  | n + 1, r => .unusable :: gap n r
def poolList (es : List (Nat × CpInfo)) (last : Nat) : List CpInfo := es.foldr (fun e r => gap e.1 (e.2 :: r)) (gap last [])
def pool (es : List (Nat × CpInfo)) (last : Nat) : Array CpInfo := ⟨poolList es last⟩
def fileOf (pool : Array CpInfo) (this : Nat) (attrs : Array Attribute := #[]) (ms : Array MethodInfo := #[]) (fl : Nat := 33) (sup : Nat := 0) (ifs : Array Nat := #[]) (fds : Array FieldInfo := #[]) : ClassFile where
  minorVersion := 0
  majorVersion := 65
  constantPool := pool
  accessFlags := fl
  thisClass := this
  superClass := sup
  interfaces := ifs
  fields := fds
  methods := ms
  attributes := attrs
def plain (name : String) (sup : Option ClassId) : Class where
  name := name
  kind := .ordinary
  loader := none
  accessFlags := 33
  super := sup
  interfaces := #[]
  cf := none
  fields := #[]
  methods := #[]
  instanceTypes := #[]
  staticTypes := #[]
  resolved := #[]
  callSites := []
  init := .initialized
  statics := none
  mirror := none

def pool0 : Array CpInfo := pool [(5, u "<init>"), (0, u "()V"), (1, .class_ 10), (1, u "java/lang/Object")] 113

def k0m0 : Method := { name := "<init>", desc := "()V", sig := { parameters := [], returnType := none }, accessFlags := 1, code := none }
/-- java/lang/Object -/
def k0 : Class := { plain "java/lang/Object" none with
  accessFlags := 33
  interfaces := #[]
  cf := some (fileOf pool0 8 #[] #[{ accessFlags := 1, nameIndex := 5, descriptorIndex := 6, attributes := #[] }] 33 0 #[] #[])
  fields := #[]
  methods := #[k0m0]
  instanceTypes := #[]
  staticTypes := #[]
  resolved := Array.replicate 124 none
  statics := none }

def pool1 : Array CpInfo := pool [(2, .class_ 4), (1, u "java/lang/Object"), (0, u "<init>"), (0, u "()V"), (0, .methodref 8 9), (0, .class_ 10), (0, .nameAndType 11 12), (0, u "com/example/bundlewright/bundlewright/core/Name"), (0, u "isNameStart"), (0, u "(I)Z"), (0, .methodref 14 15), (0, .class_ 16), (0, .nameAndType 17 12), (0, u "com/example/bundlewright/bundlewright/core/NameIsNameStartPinLaw"), (0, u "reference"), (3, u "law"), (0, u "(II)Z")] 2

def k1m0 : Method := { name := "<init>", desc := "()V", sig := { parameters := [], returnType := none }, accessFlags := 1, code := none }
def k1c1 : Code := { maxStack := 2, maxLocals := 1, code := method_2_code, exceptionTable := #[], attributes := #[] }
def k1m1 : Method := { name := "reference", desc := "(I)Z", sig := { parameters := [.int], returnType := some .boolean }, accessFlags := 10, code := some k1c1 }
def k1c2 : Code := { maxStack := 2, maxLocals := 5, code := code, exceptionTable := #[], attributes := #[] }
def k1m2 : Method := { name := "law", desc := "(II)Z", sig := { parameters := [.int, .int], returnType := some .boolean }, accessFlags := 9, code := some k1c2 }
/-- com/example/bundlewright/bundlewright/core/NameIsNameStartPinLaw -/
def k1 : Class := { plain "com/example/bundlewright/bundlewright/core/NameIsNameStartPinLaw" (some 0) with
  accessFlags := 49
  interfaces := #[]
  cf := some (fileOf pool1 14 #[] #[{ accessFlags := 1, nameIndex := 5, descriptorIndex := 6, attributes := #[] }, { accessFlags := 10, nameIndex := 17, descriptorIndex := 12, attributes := #[] }, { accessFlags := 9, nameIndex := 21, descriptorIndex := 22, attributes := #[] }] 49 2 #[] #[])
  fields := #[]
  methods := #[k1m0, k1m1, k1m2]
  instanceTypes := #[]
  staticTypes := #[]
  resolved := Array.replicate 25 none
  statics := none }

def pool2 : Array CpInfo := pool [(2, .class_ 4), (1, u "java/lang/Object"), (3, .class_ 10), (1, u "com/example/bundlewright/bundlewright/core/Name"), (0, u "written"), (0, u "Ljava/lang/String;"), (14, u "ascii"), (0, u "[B"), (2, u "hash"), (0, u "I"), (17, u "isNameStart"), (0, u "(I)Z"), (2, u "qualified"), (0, u "Z"), (8, u "prefix"), (5, u "local"), (10, u "declared"), (4, u "reservedPrefix"), (0, .fieldref 8 88), (0, .nameAndType 89 28), (0, u "KIND"), (2, u "counted"), (0, u "J"), (0, u "NAME_START"), (2, u "NAME_CHARACTER")] 16

def k2c0 : Code := { maxStack := 2, maxLocals := 1, code := prog_31_method_2_code, exceptionTable := #[], attributes := #[] }
def k2m0 : Method := { name := "isNameStart", desc := "(I)Z", sig := { parameters := [.int], returnType := some .boolean }, accessFlags := 8, code := some k2c0 }
/-- com/example/bundlewright/bundlewright/core/Name -/
def k2 : Class := { plain "com/example/bundlewright/bundlewright/core/Name" (some 0) with
  accessFlags := 48
  interfaces := #[]
  cf := some (fileOf pool2 8 #[] #[{ accessFlags := 8, nameIndex := 50, descriptorIndex := 51, attributes := #[] }] 48 2 #[] #[{ accessFlags := 26, nameIndex := 89, descriptorIndex := 28, attributes := #[] }, { accessFlags := 26, nameIndex := 94, descriptorIndex := 32, attributes := #[] }, { accessFlags := 26, nameIndex := 97, descriptorIndex := 32, attributes := #[] }, { accessFlags := 18, nameIndex := 11, descriptorIndex := 12, attributes := #[] }, { accessFlags := 18, nameIndex := 27, descriptorIndex := 28, attributes := #[] }, { accessFlags := 18, nameIndex := 31, descriptorIndex := 32, attributes := #[] }, { accessFlags := 18, nameIndex := 54, descriptorIndex := 55, attributes := #[] }, { accessFlags := 18, nameIndex := 64, descriptorIndex := 12, attributes := #[] }, { accessFlags := 18, nameIndex := 70, descriptorIndex := 12, attributes := #[] }, { accessFlags := 18, nameIndex := 81, descriptorIndex := 12, attributes := #[] }, { accessFlags := 18, nameIndex := 86, descriptorIndex := 55, attributes := #[] }, { accessFlags := 2, nameIndex := 92, descriptorIndex := 93, attributes := #[] }])
  fields := #[{ name := "KIND", type := (.array .byte), accessFlags := 26, slot := 0, constantValue := 0 }, { name := "NAME_START", type := .int, accessFlags := 26, slot := 1, constantValue := 0 }, { name := "NAME_CHARACTER", type := .int, accessFlags := 26, slot := 2, constantValue := 0 }, { name := "written", type := (.object "java/lang/String"), accessFlags := 18, slot := 0, constantValue := 0 }, { name := "ascii", type := (.array .byte), accessFlags := 18, slot := 1, constantValue := 0 }, { name := "hash", type := .int, accessFlags := 18, slot := 2, constantValue := 0 }, { name := "qualified", type := .boolean, accessFlags := 18, slot := 3, constantValue := 0 }, { name := "prefix", type := (.object "java/lang/String"), accessFlags := 18, slot := 4, constantValue := 0 }, { name := "local", type := (.object "java/lang/String"), accessFlags := 18, slot := 5, constantValue := 0 }, { name := "declared", type := (.object "java/lang/String"), accessFlags := 18, slot := 6, constantValue := 0 }, { name := "reservedPrefix", type := .boolean, accessFlags := 18, slot := 7, constantValue := 0 }, { name := "counted", type := .long, accessFlags := 2, slot := 8, constantValue := 0 }]
  methods := #[k2m0]
  instanceTypes := #[(.object "java/lang/String"), (.array .byte), .int, .boolean, (.object "java/lang/String"), (.object "java/lang/String"), (.object "java/lang/String"), .boolean, .long]
  staticTypes := #[(.array .byte), .int, .int]
  resolved := Array.replicate 114 none
  statics := some 0 }

def pool3 : Array CpInfo := pool [(1, u "java/lang/Cloneable"), (0, .class_ 1), (0, u "java/lang/Object"), (0, .class_ 3)] 3

/-- java/lang/Cloneable -/
def k3 : Class := { plain "java/lang/Cloneable" (some 0) with
  accessFlags := 1537
  interfaces := #[]
  cf := some (fileOf pool3 2 #[] #[] 1537 4 #[] #[])
  fields := #[]
  methods := #[]
  instanceTypes := #[]
  staticTypes := #[]
  resolved := Array.replicate 8 none
  statics := none }

def pool4 : Array CpInfo := pool [(1, u "java/io/Serializable"), (0, .class_ 1), (0, u "java/lang/Object"), (0, .class_ 3)] 3

/-- java/io/Serializable -/
def k4 : Class := { plain "java/io/Serializable" (some 0) with
  accessFlags := 1537
  interfaces := #[]
  cf := some (fileOf pool4 2 #[] #[] 1537 4 #[] #[])
  fields := #[]
  methods := #[]
  instanceTypes := #[]
  staticTypes := #[]
  resolved := Array.replicate 8 none
  statics := none }

/-- the primitive byte -/
def k5 : Class := { plain "byte" none with kind := .primitive 'B', accessFlags := 0x411 }
/-- [B -/
def k6 : Class := { plain "[B" (some 0) with kind := .array 5 .byte, interfaces := #[3, 4], accessFlags := 1041 }

/-- the primitive int -/
def k7 : Class := { plain "int" none with kind := .primitive 'I', accessFlags := 0x411 }
/-- [I -/
def k8 : Class := { plain "[I" (some 0) with kind := .array 7 .int, interfaces := #[3, 4], accessFlags := 1041 }

def heap : Heap := #[{ cls := 2, slots := #[.ref 1, .int 0, .int 0], vm := .statics 2 },
  { cls := 6, slots := #[.int 0, .int 0, .int 0, .int 0, .int 0, .int 0, .int 0, .int 0, .int 0, .int 0, .int 0, .int 0, .int 0, .int 0, .int 0, .int 0, .int 0, .int 0, .int 0, .int 0, .int 0, .int 0, .int 0, .int 0, .int 0, .int 0, .int 0, .int 0, .int 0, .int 0, .int 0, .int 0, .int 0, .int 0, .int 0, .int 0, .int 0, .int 0, .int 0, .int 0, .int 0, .int 0, .int 0, .int 0, .int 0, .int 2, .int 2, .int 0, .int 2, .int 2, .int 2, .int 2, .int 2, .int 2, .int 2, .int 2, .int 2, .int 2, .int 3, .int 0, .int 0, .int 0, .int 0, .int 0, .int 0, .int 3, .int 3, .int 3, .int 3, .int 3, .int 3, .int 3, .int 3, .int 3, .int 3, .int 3, .int 3, .int 3, .int 3, .int 3, .int 3, .int 3, .int 3, .int 3, .int 3, .int 3, .int 3, .int 3, .int 3, .int 3, .int 3, .int 0, .int 0, .int 0, .int 0, .int 3, .int 0, .int 3, .int 3, .int 3, .int 3, .int 3, .int 3, .int 3, .int 3, .int 3, .int 3, .int 3, .int 3, .int 3, .int 3, .int 3, .int 3, .int 3, .int 3, .int 3, .int 3, .int 3, .int 3, .int 3, .int 3, .int 3, .int 3, .int 0, .int 0, .int 0, .int 0, .int 0], vm := .none }]
def classes : Array Class := #[k0, k1, k2, k3, k4, k5, k6, k7, k8]
def interned : List (Array UInt16 × Addr) := []
def slotsUsed : Nat := 131
def theMethod : MethodId := ⟨1, 2⟩
def args0 : Array Value := #[.int 65, .int 66]
def aboutOver (below : List Frame) : State where
  vm := { classes := classes, interned := interned.toArray }
  heap := heap
  slotsUsed := slotsUsed
  threads := #[{ frames := .invoking theMethod args0 :: below }]
def below0 : List Frame := [.native { method := ⟨0, 0⟩, args := #[] }]
def about1 : State := aboutOver below0
def p0 : Program := .bare "" "" ""
def e0 : Env := launch0.env 0 0 0
theorem w_frames : about1.frames = Frame.invoking theMethod args0 :: below0 := rfl
set_option maxRecDepth 65536 in
theorem w_args : argsFit about1.vm theMethod args0 = true := by decide +kernel
set_option maxRecDepth 65536 in
theorem w_heap : heapFits about1 = true := by decide +kernel
set_option maxRecDepth 65536 in
theorem w_runnable : about1.curStatus? = some .runnable := by decide +kernel
set_option maxRecDepth 65536 in
theorem w_alone : about1.alone = true := by decide +kernel
set_option maxRecDepth 65536 in
theorem w_named : about1.methodNamed? x = some theMethod := by decide +kernel
set_option maxRecDepth 65536 in
theorem w_hears : about1.hears theMethod below0 = true := by decide +kernel
set_option maxRecDepth 65536 in
theorem w_ripe : about1.ripe theMethod args0 below0 = true := by decide +kernel
theorem w_running : about1.status = .running := rfl
set_option maxRecDepth 65536 in
theorem w_room : about1.hasRoom e0.platform room_1 = true :=
  launch0.hasRoom_least _ room_1 (by decide +kernel) (by decide +kernel) (by decide +kernel) (by decide +kernel) (by decide +kernel) (by decide +kernel)
theorem allAtoms_all (ts : List Jvm.Cond) (a : Array Jvm.Value) (st : Jvm.State) : (allAtoms ts).before a st = ts.all (fun c => c.before a st) := by
  induction ts with
  | nil => rfl
  | cons c t ih =>
    show (Jvm.Cond.and c (allAtoms t)).before a st = _
    rw [Jvm.Cond.before_and, ih, List.all_cons]
def words1 : List Jvm.Cond := Jvm.Cond.code x code maxLocals ret :: tables_1
/-- a 'code' word, met by the world's own term for the bytes: nothing is compared byte by byte -/
theorem code_word {y : MethodName} {bytes : ByteArray} {mx : Nat} {rt : Option FieldType} {a : Array Value} {s : State} {m : MethodId} {meth : Method} {c : Code} (h1 : s.methodNamed? y = some m) (h2 : s.vm.method? m = some meth) (h3 : meth.code = some c) (h4 : c.code = bytes)
    (h5 : (c.maxLocals == mx && c.exceptionTable.isEmpty && decide (c.maxStack ≤ mostOperands) && decide (meth.sig.returnType = rt) && !meth.locks && decide (parseMethodDescriptor y.desc = some meth.sig)) = true) : (Jvm.Cond.code y bytes mx rt).before a s = true := by
  simp only [Bool.and_eq_true, beq_iff_eq, Bool.not_eq_true', decide_eq_true_eq] at h5
  obtain ⟨⟨⟨⟨⟨g1, g2⟩, g3⟩, g4⟩, g5⟩, g6⟩ := h5
  simp [Cond.before, Cond.holds, Cond.value, h1, h2, h3, h4, g1, g2, g3, g4, g5, g6]
def isCode : Jvm.Cond → Bool
  | .code _ _ _ _ => true
  | _ => false
theorem all_split {L : List Jvm.Cond} {P : Jvm.Cond → Bool} (h1 : L.all (fun c => isCode c || P c) = true) (h2 : ∀ c ∈ L.filter isCode, P c = true) : L.all P = true := by
  refine List.all_eq_true.mpr fun c hc => ?_
  have h := List.all_eq_true.mp h1 c hc
  rcases Bool.eq_false_or_eq_true (isCode c) with hi | hi
  · exact h2 c (List.mem_filter.mpr ⟨hc, hi⟩)
  · simpa [hi] using h
set_option maxRecDepth 65536 in
theorem w_c0 : (Jvm.Cond.code x code maxLocals ret).before args0 about1 = true := code_word (m := ⟨1, 2⟩) (meth := k1m2) (c := k1c2) (by decide +kernel) rfl rfl rfl (by decide +kernel)
set_option maxRecDepth 65536 in
theorem w_c1 : (Jvm.Cond.code ({ cls := "com/example/bundlewright/bundlewright/core/Name", name := "isNameStart", desc := "(I)Z" } : Jvm.MethodName) prog_31_method_2_code (1 : Nat) (Option.some Jvm.ClassFile.FieldType.boolean)).before args0 about1 = true := code_word (m := ⟨2, 0⟩) (meth := k2m0) (c := k2c0) (by decide +kernel) rfl rfl rfl (by decide +kernel)
set_option maxRecDepth 65536 in
theorem w_c2 : (Jvm.Cond.code ({ cls := "com/example/bundlewright/bundlewright/core/NameIsNameStartPinLaw", name := "reference", desc := "(I)Z" } : Jvm.MethodName) method_2_code (1 : Nat) (Option.some Jvm.ClassFile.FieldType.boolean)).before args0 about1 = true := code_word (m := ⟨1, 1⟩) (meth := k1m1) (c := k1c1) (by decide +kernel) rfl rfl rfl (by decide +kernel)
def codes1 : List Jvm.Cond := [Jvm.Cond.code x code maxLocals ret, Jvm.Cond.code ({ cls := "com/example/bundlewright/bundlewright/core/Name", name := "isNameStart", desc := "(I)Z" } : Jvm.MethodName) prog_31_method_2_code (1 : Nat) (Option.some Jvm.ClassFile.FieldType.boolean), Jvm.Cond.code ({ cls := "com/example/bundlewright/bundlewright/core/NameIsNameStartPinLaw", name := "reference", desc := "(I)Z" } : Jvm.MethodName) method_2_code (1 : Nat) (Option.some Jvm.ClassFile.FieldType.boolean)]
set_option maxRecDepth 65536 in
theorem codes_eq : words1.filter isCode = codes1 := rfl
theorem w_codes : ∀ c ∈ words1.filter isCode, c.before args0 about1 = true := by
  rw [codes_eq]
  intro c hc
  simp only [codes1, List.mem_cons, List.not_mem_nil, or_false] at hc
  rcases hc with rfl | rfl | rfl
  · exact w_c0
  · exact w_c1
  · exact w_c2
set_option maxRecDepth 65536 in
theorem w_t1 : words1.all (fun c => isCode c || c.before args0 about1) = true := by decide +kernel
theorem w_tables : (allAtoms (Jvm.Cond.code x code maxLocals ret :: tables_1)).before args0 about1 = true := by
  rw [allAtoms_all]
  show words1.all (fun c => c.before args0 about1) = true
  refine all_split ?_ w_codes
  rw [w_t1]
set_option maxRecDepth 65536 in
theorem w_case : (Jvm.Cond.and given_1 narrow_1).before args0 about1 = true := by decide +kernel
theorem w_applies : (headSpec (Jvm.Cond.code x code maxLocals ret :: tables_1) room_1).applies x e0.platform about1 = true :=
  (Spec.applies_iff w_frames).mpr ⟨w_running, w_runnable, w_alone, w_named, w_hears, w_ripe, w_room, w_tables⟩
theorem atStart : AtStart classFile x code maxLocals ret World_1 tables_1 room_1 Calls_1 rest_1 Pre_1 launch0 p0 e0 about1 theMethod args0 below0 :=
  ⟨lists_1, trivial, launch0.admits_env _ _ _, launch0.least_env, fairChoices_fair.cas, fairChoices_fair.clock, w_frames, w_args, w_heap, w_applies, trivial, trivial, w_case⟩
end start1
theorem witness_1 : WitnessClaimed_1 := ⟨start1.p0, start1.e0, start1.about1, start1.theMethod, start1.args0, start1.below0, start1.atStart⟩
end Jvm.Pilot.@@N@@
