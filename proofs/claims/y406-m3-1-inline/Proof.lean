import JvmDerived
import JvmDerived.Pilot.@@N@@Statement
import JvmDerived.Pilot.@@N@@Code
set_option linter.unusedVariables false
set_option linter.unusedSimpArgs false
namespace Jvm.RoadKit
open Sem ClassFile Op Lib Jvm.Stand Jvm.Free Jvm.LawKit
section New
variable {p : Program} {l : Launch} {e : Env} {R : Room} {s : State} {m : MethodId} {args : Array Value} {below : List Frame} {meth : Method} {c : Code} {T : State} {locs : List Loc} {cells slots : Nat}
theorem retI (X : Stand p l e R s m args below meth c T locs cells slots) (hx : p.tables.exec = Jvm.exec) {pc : Nat} {Ls : Array Slot} {z : Int32} {rest : List Value} (hret : meth.sig.returnType = some .int) (hd : decode c.code pc = .ok (.ireturn, 1)) {fs : List Frame}
    (hl : ∀ (f : JFrame) (acts : List Action), f.method = m → f.locked = none → f.entered = [] → (doReturn e (T.setTop f) acts (some (.int z))).1 = T.setFrames fs) : Steps p.tables e below (T.setTop (mkF m pc Ls (.int z :: rest))) (T.setFrames fs) := by
  have hm' : T.vm.method? m = some meth := X.method'
  have hn : narrow .int (.int z) = .int z := rfl
  show Steps p.tables e below (T.setTop { method := m, pc := pc, locals := Ls, stack := _ :: rest, locked := none }) _
  jvm_step X.here [X.here.top, hx, hd, hm', hret, hn]
  first | (intro acts; rw [hl _ acts rfl rfl rfl]) | rw [hl _ _ rfl rfl rfl]
  exact Steps.refl _
end New
end Jvm.RoadKit
namespace Jvm.Pilot.@@N@@
open Jvm Jvm.ClassFile Sem Op Lib Jvm.Free Jvm.Stand Jvm.LawKit Jvm.RoadKit Bundle Jvm.Pilot.@@N@@.Jvm.D
def own_QP (r : Option Value) (h0 : Heap) (n0 : Nat) (v : Option Value) (h : Heap) (L : List Loc) : Prop := v = r ∧ Fr n0 L ∧ h = h0
def own_Q0 (n0 : Nat) (v : Option Value) (h : Heap) (L : List Loc) : Prop := v = some (.int 1) ∧ Fr n0 L
section OwnWords
variable {args : Array Value} {s : State}
theorem own_eqI {t : Term} {k : Int32} (h : (Jvm.Cond.eq t (.int k)).value args s none s [] = some true) : t.eval args s none [] s = some (.int k) := by
  obtain ⟨x, y, h1, h2, h3, h4⟩ := cmp_v (Or.inl h)
  obtain rfl : y = .int k := (Option.some.inj h2).symm
  obtain ⟨z, rfl⟩ := h4
  have q := gotT (Cond.eq_ints h1 h2) h
  rw [h1, q]
theorem own_eqR {t u : Term} {b : Addr} (h : (Jvm.Cond.eq t u).value args s none s [] = some true) (hu : u.eval args s none [] s = some (.ref b)) : t.eval args s none [] s = some (.ref b) := by
  obtain ⟨x, y, h1, h2, h3, h4⟩ := cmp_v (Or.inl h)
  obtain rfl : y = .ref b := Option.some.inj (h2.symm.trans hu)
  have q := gotT (eq_R h1 h2 h4.2 h4.1) h
  rw [h1, q]
theorem own_fld {t : Term} {C n d : String} {a : Addr} {v : Value} (ht : t.eval args s none [] s = some (.ref a)) (h : (Term.field t C n d).eval args s none [] s = some v) : Fld s s.heap a C n d v := Fld.start ((fld_at ht).symm.trans h)
end OwnWords
theorem own_staKeep {Z : State} {h h' : Heap} {C n d : String} {v : Value} {ws : List Addr} (F : Sta Z h C n d v) (K : Keep h h' ws) (q : ∀ x ∈ ws, ∀ cell : Cell, h[x]? = some cell → cell.vm.isStatics = false) : Sta Z h' C n d v := by
  obtain ⟨cf, i, k, f, st, cell, h1, h2, h3, h4, h5, h6, h7⟩ := F
  refine ⟨cf, i, k, f, st, cell, h1, h2, h3, h4, K.2.1 st cell h5 (fun z => ?_), h6, h7⟩
  rw [q st z cell h5] at h6; cases h6
abbrev own_MF (l : Launch) (y : MethodName) (k : Jvm.Cond) (ws : List Jvm.Cond) (R : Room) (A : Array Value) (Z : State) (h0 : Heap) (Q : Option Value → Heap → List Loc → Prop) : Prop := MetFree l y (head1 (k :: ws) R) (fun a U => a = A ∧ Z.Warmed39 U.vm ∧ U.heap = h0) (fun _ _ _ _ _ => True) (fun _ U o U' => ∃ v L, o = .returned v ∧ Q v U'.heap L ∧ FrameEnd U o U' L R.cells R.slots)
theorem own_g {P : Jvm.Cond → Prop} (hw : ∀ d ∈ tables_1, P d) (i : Nat) {d : Jvm.Cond} (h : tables_1[i]? = some d) : P d := hw d (List.mem_of_getElem? h)
abbrev own_y0 : MethodName := ⟨"java/lang/String", "coder", "()B"⟩
abbrev own_y1 : MethodName := ⟨"java/lang/String", "isLatin1", "()Z"⟩
abbrev own_y2 : MethodName := ⟨"java/lang/String", "length", "()I"⟩
abbrev own_y3 : MethodName := ⟨"java/lang/Math", "max", "(II)I"⟩
abbrev own_y4 : MethodName := ⟨"java/lang/Math", "min", "(II)I"⟩
abbrev own_y5 : MethodName := ⟨"java/util/Arrays", "checkLength", "(II)V"⟩
abbrev own_y6 : MethodName := ⟨"jdk/internal/util/Preconditions", "checkIndex", "(IILjava/util/function/BiFunction;)I"⟩
abbrev own_y7 : MethodName := ⟨"java/lang/String", "checkIndex", "(II)V"⟩
abbrev own_y8 : MethodName := ⟨"java/lang/StringLatin1", "charAt", "([BI)C"⟩
abbrev own_y9 : MethodName := ⟨"java/lang/String", "charAt", "(I)C"⟩
abbrev own_y10 : MethodName := ⟨"java/util/Arrays", "copyOfRangeByte", "([BII)[B"⟩
abbrev own_y11 : MethodName := ⟨"java/util/Arrays", "copyOfRange", "([BII)[B"⟩
abbrev own_y12 : MethodName := ⟨"java/lang/AbstractStringBuilder", "<init>", "(I)V"⟩
abbrev own_y13 : MethodName := ⟨"java/lang/StringBuilder", "<init>", "()V"⟩
abbrev own_y14 : MethodName := ⟨"java/lang/AbstractStringBuilder", "getValue", "()[B"⟩
abbrev own_y15 : MethodName := ⟨"java/lang/AbstractStringBuilder", "length", "()I"⟩
abbrev own_y16 : MethodName := ⟨"java/lang/AbstractStringBuilder", "ensureCapacityInternal", "(I)V"⟩
abbrev own_y17 : MethodName := ⟨"java/lang/StringBuilder", "length", "()I"⟩
abbrev own_y18 : MethodName := ⟨"java/lang/AbstractStringBuilder", "isLatin1", "()Z"⟩
abbrev own_y19 : MethodName := ⟨"jdk/internal/util/ArraysSupport", "newLength", "(III)I"⟩
abbrev own_y20 : MethodName := ⟨"java/lang/AbstractStringBuilder", "newCapacity", "(I)I"⟩
abbrev own_y21 : MethodName := ⟨"java/util/Arrays", "copyOf", "([BI)[B"⟩
abbrev own_y22 : MethodName := ⟨"java/lang/AbstractStringBuilder", "inflateIfNeededFor", "(Ljava/lang/String;)V"⟩
abbrev own_y23 : MethodName := ⟨"java/lang/String", "getBytes", "([BIB)V"⟩
abbrev own_y24 : MethodName := ⟨"java/lang/AbstractStringBuilder", "putStringAt", "(ILjava/lang/String;)V"⟩
abbrev own_y25 : MethodName := ⟨"java/lang/AbstractStringBuilder", "append", "(Ljava/lang/String;)Ljava/lang/AbstractStringBuilder;"⟩
abbrev own_y26 : MethodName := ⟨"java/lang/StringBuilder", "append", "(Ljava/lang/String;)Ljava/lang/StringBuilder;"⟩
abbrev own_y27 : MethodName := ⟨"java/lang/String", "<init>", "(Ljava/lang/AbstractStringBuilder;Ljava/lang/Void;)V"⟩
abbrev own_y28 : MethodName := ⟨"java/lang/String", "<init>", "(Ljava/lang/StringBuilder;)V"⟩
abbrev own_y29 : MethodName := ⟨"java/lang/StringBuilder", "toString", "()Ljava/lang/String;"⟩
abbrev own_y30 : MethodName := ⟨"java/lang/StringUTF16", "compress", "([CI[BII)I"⟩
abbrev own_y31 : MethodName := ⟨"java/lang/StringUTF16", "compress", "([CII)[B"⟩
abbrev own_y32 : MethodName := ⟨"java/lang/StringUTF16", "coderFromArrayLen", "([BI)B"⟩
abbrev own_y33 : MethodName := ⟨"java/lang/String", "<init>", "([CIILjava/lang/Void;)V"⟩
abbrev own_y34 : MethodName := ⟨"java/lang/String", "<init>", "([C)V"⟩
abbrev own_y35 : MethodName := ⟨"com/example/librowmap/librowmap/sql/Dialect", "textOf", "(Ljava/lang/String;)Ljava/lang/String;"⟩
abbrev own_y36 : MethodName := ⟨"com/example/librowmap/librowmap/sql/DialectTextOfPinLaw", "eq", "(Ljava/lang/String;IC)Z"⟩
abbrev own_y37 : MethodName := ⟨"java/lang/String", "equals", "(Ljava/lang/Object;)Z"⟩
abbrev own_EL : List (String × Nat) := [("com/example/librowmap/librowmap/sql/Dialect", 235), ("com/example/librowmap/librowmap/sql/Dialect", 237), ("com/example/librowmap/librowmap/sql/Dialect", 239), ("java/lang/String", 7)]
theorem own_hEL {Z : State} {a0 : Array Value} (hw : ∀ d ∈ tables_1, d.before a0 Z = true) : EW Z a0 own_EL := (EW.cons (own_g hw 67 rfl) (by decide) (EW.cons (own_g hw 117 rfl) (by decide) (EW.cons (own_g hw 118 rfl) (by decide) (EW.cons (own_g hw 208 rfl) (by decide) EW.nil))))
def own_at (vs : List Value) (j : Int32) : Int32 := match vs.getD j.toNatClampNeg (.int 0) with | .int x => x | _ => 0
theorem own_atv {c : Cell} {vs : List Value} {j : Int32} (H : Has c vs (.int 0)) (G : ∀ i, i < c.slots.size → fits .byte (vs.getD i (.int 0)) = true) (q : ¬ (j < 0 ∨ c.slots.size ≤ j.toNatClampNeg)) : c.slots[j.toNatClampNeg]? = some (.int (own_at vs j)) := by
  have hl := Nat.lt_of_not_le fun y => q (Or.inr y)
  obtain ⟨x, hx⟩ := fit_I (G _ hl) (Or.inr (Or.inr (Or.inl rfl)))
  rw [H _ hl]; simp only [own_at, hx]
theorem own_setG {Z : State} {h h' : Heap} {a : Addr} {k : ClassId} {z : Int32} {vs : List Value} {sl : Nat} {v : Value} (F : Arv Z h a k .byte z vs (.int 0)) (W : Wr h h' a sl v) (hv : fits .byte v = true) : ∃ vs', Arv Z h' a k .byte z vs' (.int 0) := by
  obtain ⟨c, A, q1, S, q3, H, G⟩ := F
  refine ⟨(c.setSlot sl v).slots.toList, c.setSlot sl v, A.same W, q1, by rw [sz_set]; exact S, q3, fun i hi => ?_, fun i hi => ?_⟩
  · simp [List.getD_eq_getElem?_getD, hi]
  · have hi' := hi
    rw [sz_set] at hi'
    have g := G i hi'
    have e := H i hi'
    by_cases u : sl = i
    · subst u; simpa [List.getD_eq_getElem?_getD, Cell.setSlot, hi'] using hv
    · have e2 : (c.setSlot sl v).slots[i]? = some (vs.getD i (.int 0)) := by simp only [Cell.setSlot]; rw [Array.getElem?_setIfInBounds_ne u]; exact e
      have e3 : (c.setSlot sl v).slots.toList.getD i (.int 0) = vs.getD i (.int 0) := by rw [List.getD_eq_getElem?_getD, Array.getElem?_toList, e2]; rfl
      rw [e3]; exact g
theorem own_startG {s : State} {a : Addr} {cl : Cell} {z : Int32} (hf : Fit s) (A : Arr s s.heap a cl .byte) (q : cl.slots.size < 2 ^ 31) (e : cl.slots.size.toInt32 = z) (hz : ¬ z < 0) : ∃ vs, Arv s s.heap a cl.cls .byte z vs (.int 0) := by
  have T := Tab.start hf A (Or.inr (Or.inr (Or.inl rfl))) q e hz
  refine ⟨cl.slots.toList, cl, A, rfl, T.2.1, hz, fun i hi => by simp [List.getD_eq_getElem?_getD, hi], fun i hi => ?_⟩
  have e1 : (Nat.toInt32 i).toNatClampNeg = i := by simp only [Int32.toNatClampNeg, len_toInt (Nat.lt_trans hi q)]; rfl
  exact elem_fits (j := Nat.toInt32 i) hf A (idx_in hi q) (by rw [e1]; simp [List.getD_eq_getElem?_getD, hi])
theorem own_neS {Z : State} {h : Heap} {a b t u : Addr} {k k' : ClassId} {z z' : Int32} {vs vs' : List Value} {C n d : String} {dv dv' : Value} (F : Fld Z h a C n d (.ref t)) (G : Fld Z h b C n d (.ref u)) (A : Arv Z h t k .byte z vs dv) (B : Arv Z h u k' .byte z' vs' dv') (q : ¬ z = z') : ¬ a = b := fun e => by
  subst e
  have tu : t = u := by
    obtain ⟨c1, _, _, _, _, h1, h2, -, -, -, -, h7⟩ := F
    obtain ⟨c2, _, _, _, _, g1, g2, -, -, -, -, g7⟩ := G
    cases h1.symm.trans g1; cases h2.symm.trans g2; exact Value.ref.inj (Option.some.inj (h7.symm.trans g7))
  subst tu
  obtain ⟨c1, A1, -, S1, N1, -⟩ := A
  obtain ⟨c2, A2, -, S2, N2, -⟩ := B
  cases A1.1.symm.trans A2.1
  exact q ((len_of S1 N1).symm.trans (len_of S2 N2))
theorem own_shr0 (z : Int32) : (z >>> ((0 : Int32) &&& 31)) = z := by
  have h := c_ishr z (0 : Int32) 0 (by decide)
  rw [← Int32.toInt_inj]; omega
theorem own_nc {c : Int32} (h : ¬ c < 0 ∧ ¬ (127 : Int32) < c) : (nar .char c) = c := by
  have e : nar .char c = c.toUInt32.toUInt16.toUInt32.toInt32 := rfl
  have z0 : (0 : Int32).toInt = 0 := rfl
  have z1 : (127 : Int32).toInt = 127 := rfl
  obtain ⟨h1, h2⟩ := h
  rw [Int32.lt_iff_toInt_lt] at h1 h2
  rw [e, ← Int32.toInt_inj]
  have := c_i2c c
  omega
theorem own_n1 {c : Int32} (h : ¬ c < 0 ∧ ¬ (127 : Int32) < c) : (c.toInt8.toInt32) = c := by
  have z0 : (0 : Int32).toInt = 0 := rfl
  have z1 : (127 : Int32).toInt = 127 := rfl
  obtain ⟨h1, h2⟩ := h
  rw [Int32.lt_iff_toInt_lt] at h1 h2
  rw [← Int32.toInt_inj]
  have := c_i2b c
  omega
/-- a literal's bytes are a byte[] -/
theorem own_litB {Z : State} {EL : List (String × Nat)} {vm : Vm} {h : Heap} {b : Addr} {k : ClassId} {z : Int32} {vs : List Value} {d : Value} (hal : Z.vm.Alike vm) (A : Arv Z h b k .byte z vs d) (B : Bk Z EL vm h b) : Exa Z h b "[B" := by
  have ns := A.nostat
  obtain ⟨cl, ⟨A1, ⟨hs, kA, hkA, compA, hkindA⟩, -⟩, -⟩ := A
  obtain ⟨kA', hkA', ekA⟩ := hal.2.2 _ _ hkA
  obtain ⟨p, -, u, a, -, q, -, F, hy⟩ := B
  have ha := F.ha
  have hd := F.hd
  obtain ⟨cS, ⟨-, -, ec⟩, ⟨kS, g1, g2, -⟩, f, -⟩ := F
  rcases hy with rfl | rfl
  · exfalso
    cases (show h[q.sa]? = some q.sC from ha).symm.trans A1
    rw [← ec] at g1
    have g1' : vm.classes[q.sC.cls]? = some kS := g1
    rw [hkA'] at g1'
    cases g1'
    rw [ekA, hkindA] at g2
    cases g2
  · cases (show h[q.sd]? = some q.SA from hd).symm.trans A1
    have f' : vm.findClass "[B" = some q.SA.cls := f
    rw [hal.findClass] at f'
    exact ⟨_, kA, A1, f', hkA, ns _ A1, fun q => by rw [hkindA] at q; cases q⟩
/-- a String whose value is null is none of the literals that the tables book -/
theorem own_safeN {Z : State} {EL : List (String × Nat)} {vm : Vm} {h : Heap} {x : Addr} (hal : Z.vm.Alike vm) (E : Exa Z h x "java/lang/String") (F : Fld Z h x "java/lang/String" "value" "[B" .null) : Safe Z EL vm h x := fun B => by
  obtain ⟨pr, -, u, a, -, q, -, FB, hy⟩ := B
  have ha := FB.ha
  have hd := FB.hd
  obtain ⟨cS, ⟨⟨-, -, -, ⟨c1, k1, i1, f1, -⟩, -, -, -, v1, -⟩, -⟩, -, hB, -⟩ := FB
  rcases hy with rfl | rfl
  · obtain ⟨cell, cf, k, i, f, g1, g2, -, -, -, -, g7⟩ := F
    obtain ⟨k3, e3, -⟩ := State.fieldFound?_setVm (s := Z) hal g2
    have e4 := (show (Wst Z vm h).fieldFound? _ _ _ = _ from e3).symm.trans f1
    simp only [Option.some.injEq, Prod.mk.injEq] at e4
    cases g1.symm.trans (show h[q.sa]? = some q.sC from ha)
    rw [← e4.2.2.2, g7] at v1
    cases v1
  · obtain ⟨cell, k, g1, g2, -⟩ := E
    cases g1.symm.trans (show h[q.sd]? = some q.SA from hd)
    have hB' : vm.findClass "[B" = some q.SA.cls := hB
    rw [hal.findClass] at hB'
    exact absurd rfl (ids_ne g2 hB' (by decide))
theorem own_za (x : Int32) : (0 : Int32) + x = x := by simp
theorem own_az (x : Int32) : x + (0 : Int32) = x := by simp
def own_min (a b : Int32) : Int32 := if b < a then b else a
def own_max (a b : Int32) : Int32 := if a < b then b else a
def own_ch (x : Int32) : Int32 := nar .char ((x &&& (255 : Int32)).toUInt32.toUInt16.toUInt32.toInt32)
def own_has (vs : List Value) (l : List Int32) : Prop := ∀ i, i < l.length → vs.getD i (.int 0) = .int (l.getD i 0)
def own_len (l : List Int32) (n : Int32) : Prop := n.toInt = (l.length : Int)
theorem own_cpy {vd xs : List Value} {l m : List Int32} {c n : Nat} (hc : c = l.length) (hn : n = m.length) (hl : c + n ≤ vd.length) (H : own_has vd l) (M : own_has xs m) : own_has (vd.take c ++ (List.range n).map (fun i => xs.getD (0 + i) (.int 0)) ++ vd.drop (c + n)) (l ++ m) := by
  subst hc hn
  intro i hi
  rw [List.length_append] at hi
  have ht : (vd.take l.length).length = l.length := by rw [List.length_take]; omega
  by_cases h : i < l.length
  · have := H i h
    rw [List.getD_eq_getElem?_getD, List.getElem?_append_left (by rw [List.length_append, ht]; omega), List.getElem?_append_left (by rw [ht]; exact h), List.getElem?_take_of_lt h, ← List.getD_eq_getElem?_getD, this]
    rw [List.getD_eq_getElem?_getD, List.getD_eq_getElem?_getD, List.getElem?_append_left h]
  · have hk : i - l.length < m.length := by omega
    have := M (i - l.length) hk
    rw [List.getD_eq_getElem?_getD, List.getElem?_append_left (by rw [List.length_append, ht, List.length_map, List.length_range]; omega), List.getElem?_append_right (by rw [ht]; omega), ht, List.getElem?_map, List.getElem?_range hk]
    rw [Option.map_some, Option.getD_some, Nat.zero_add, this]
    rw [List.getD_eq_getElem?_getD, List.getD_eq_getElem?_getD, List.getElem?_append_right (by omega)]
theorem own_cpl {vd : List Value} {f : Nat → Value} {c n : Nat} (hl : c + n ≤ vd.length) : (vd.take c ++ (List.range n).map f ++ vd.drop (c + n)).length = vd.length := by
  simp only [List.length_append, List.length_take, List.length_map, List.length_range, List.length_drop]; omega
theorem own_has0 (vs : List Value) : own_has vs [] := fun i hi => absurd hi (Nat.not_lt_zero _)
theorem own_rd {vs : List Value} {l : List Int32} {j : Int32} (H : own_has vs l) (hj : j.toNatClampNeg < l.length) : own_at vs j = l.getD j.toNatClampNeg 0 := by
  have := H _ hj; simp only [own_at, this]
theorem own_shl0 (z : Int32) : (z <<< ((0 : Int32) &&& 31)) = z := by
  have h := c_ishl z (0 : Int32) 0 (by decide)
  have r := rng32 (z <<< ((0 : Int32) &&& 31))
  have r' := rng32 z
  rw [← Int32.toInt_inj]; omega
theorem own_s0 (x : Int32) : x - (0 : Int32) = x := by simp
theorem own_decl {a : Array Value} {s : State} {y : MethodName} {bytes : ByteArray} {ml : Nat} {ret : Option FieldType} (wi : (Jvm.Cond.instanceMethod y).before a s = true) (wc : (Jvm.Cond.code y bytes ml ret).before a s = true) : (Jvm.Cond.declares y).before a s = true := by
  obtain ⟨mk, meth, hn, hm, hst, hab⟩ := Cond.instanceMethod_spec wi
  obtain ⟨m2, cM, q1, -, -, -, -, -, -, hsig⟩ := Cond.code_spec hn wc
  cases hm.symm.trans q1
  simp [Cond.before, Cond.holds, Cond.value, hn, hm, hst, hsig]
theorem own_same {a : Array Value} {s : State} {y y' : MethodName} {C : String} {bytes : ByteArray} {ml : Nat} {ret : Option FieldType} (wi : (Jvm.Cond.instanceMethod y).before a s = true) (wc : (Jvm.Cond.code y bytes ml ret).before a s = true) (ws : (Jvm.Cond.selects C y' y').before a s = true) (e : y'.cls = y.cls) (hx : y.cls ≠ "java/lang/invoke/MethodHandle" ∧ y.cls ≠ "java/lang/invoke/VarHandle") : (Jvm.Cond.sameMethod y.cls y.cls y.name y.desc).before a s = true := by
  obtain ⟨mk, meth, hn, hm, hst, hab⟩ := Cond.instanceMethod_spec wi
  have hf := State.methodFound?_of_named hn hx
  have hc := findClass_of_methodNamed hn
  obtain ⟨c2, r2, m2, q1, q2, q3, q4, kP, hkP, hkPi⟩ := Cond.selects_spec ws
  have hc2 := findClass_of_methodNamed q3
  rw [e, hc] at hc2
  have e2 : mk.cls = m2.cls := Option.some.inj hc2
  have hn' : s.methodNamed? ⟨y.cls, y.name, y.desc⟩ = some mk := hn
  simp [Cond.before, Cond.holds, Cond.value, hc, hf, hn', e2, hkP, hkPi]
theorem own_bt {l : List Int32} {p : Int32} (hn : own_len l p) : p.toNatClampNeg = l.length := by
  unfold own_len at hn; simp only [Int32.toNatClampNeg]; omega
theorem own_b0 {l : List Int32} {p : Int32} (hn : own_len l p) : ¬ p < 0 := by
  unfold own_len at hn; have z0 : (0 : Int32).toInt = 0 := rfl
  rw [Int32.lt_iff_toInt_lt]; omega
theorem own_b1 {l : List Int32} {p : Int32} (hn : own_len l p) (h : l.length ≤ 34) : p.toNatClampNeg ≤ 34 := by rw [own_bt hn]; exact h
theorem own_b3 {l : List Int32} {p z : Int32} (hn : own_len l p) (h : p < z) : (0 : Int32).toNatClampNeg + p.toNatClampNeg ≤ z.toNatClampNeg := by
  have e : (0 : Int32).toNatClampNeg = 0 := rfl
  unfold own_len at hn; rw [Int32.lt_iff_toInt_lt] at h; rw [e]; simp only [Int32.toNatClampNeg]; omega
theorem own_b4 (p : Int32) : (0 : Int32).toNatClampNeg + p.toNatClampNeg ≤ p.toNatClampNeg := by
  have e : (0 : Int32).toNatClampNeg = 0 := rfl
  rw [e]; omega
theorem own_b5 {l : List Int32} {p : Int32} (hn : own_len l p) (h : l.length ≤ 34) : (0 : Int32).toNatClampNeg + p.toNatClampNeg ≤ (List.replicate 34 (Value.int 0)).length := by
  have e : (0 : Int32).toNatClampNeg = 0 := rfl
  rw [e, List.length_replicate, own_bt hn]; omega
theorem own_b6 {l : List Int32} {p : Int32} {vs vx : List Value} (hn : own_len l p) (h : l.length ≤ 34) (H : own_has vs l) (e : vx = (List.replicate 34 (Value.int 0)).take (0 : Int32).toNatClampNeg ++ (List.range p.toNatClampNeg).map (fun i => vs.getD ((0 : Int32).toNatClampNeg + i) (.int 0)) ++ (List.replicate 34 (Value.int 0)).drop ((0 : Int32).toNatClampNeg + p.toNatClampNeg)) : own_has vx l := by
  have z : (0 : Int32).toNatClampNeg = 0 := rfl
  rw [z] at e; subst e
  have := own_cpy (l := []) (m := l) (c := 0) (n := p.toNatClampNeg) rfl (own_bt hn) (by rw [List.length_replicate, own_bt hn]; omega) (own_has0 (List.replicate 34 (Value.int 0))) H
  exact this
/-- a builder's array: 16 or 34 slots, and the list tells them all -/
def own_cap (z : Int32) (vs : List Value) : Prop := (z = (16 : Int32) ∨ z = (34 : Int32)) ∧ z.toNatClampNeg ≤ vs.length
theorem own_c34 {z : Int32} {vs : List Value} (h : own_cap z vs) : z.toNatClampNeg ≤ 34 := by rcases h.1 with rfl | rfl <;> decide
/-- l and m fit -/
def own_fit (l m : List Int32) (z : Int32) : Prop := ((l.length + m.length : Nat) : Int) ≤ z.toInt
theorem own_g4 {l m : List Int32} {p n z : Int32} (hl : own_len l p) (hm : own_len m n) (hf : own_fit l m z) : p.toNatClampNeg + n.toNatClampNeg ≤ z.toNatClampNeg := by
  rw [own_bt hl, own_bt hm]; unfold own_fit at hf; simp only [Int32.toNatClampNeg]; omega
theorem own_g5 {l m : List Int32} {p n z : Int32} {vs : List Value} (hl : own_len l p) (hm : own_len m n) (hf : own_fit l m z) (hc : own_cap z vs) : p.toNatClampNeg + n.toNatClampNeg ≤ vs.length := Nat.le_trans (own_g4 hl hm hf) hc.2
theorem own_g6 {l m : List Int32} {p n z : Int32} {vs bs vx : List Value} (hl : own_len l p) (hm : own_len m n) (hf : own_fit l m z) (hc : own_cap z bs) (H : own_has bs l) (M : own_has vs m) (e : vx = bs.take p.toNatClampNeg ++ (List.range n.toNatClampNeg).map (fun i => vs.getD ((0 : Int32).toNatClampNeg + i) (.int 0)) ++ bs.drop (p.toNatClampNeg + n.toNatClampNeg)) : own_has vx (l ++ m) ∧ own_cap z vx := by
  have z0 : (0 : Int32).toNatClampNeg = 0 := rfl
  rw [z0] at e; subst e
  have k := own_g5 hl hm hf hc
  exact ⟨own_cpy (own_bt hl) (own_bt hm) k H M, hc.1, by rw [own_cpl k]; exact hc.2⟩
theorem own_lapp {l m : List Int32} {p n : Int32} (hl : own_len l p) (hm : own_len m n) (h : l.length + m.length ≤ 34) : own_len (l ++ m) (p + n) := by
  unfold own_len at *
  have a := c_iadd p n
  have r := rng32 (p + n)
  rw [List.length_append]; omega
theorem own_nogrow {l m : List Int32} {p n z : Int32} (hl : own_len l p) (hm : own_len m n) (h : l.length + m.length ≤ 34) {vs : List Value} (hc : own_cap z vs) (hg : ¬ (0 : Int32) < ((p + n) - z)) : own_fit l m z := by
  have e := own_lapp hl hm h
  unfold own_len own_fit at *
  rw [List.length_append] at e
  have z0 : (0 : Int32).toInt = 0 := rfl
  have a := c_isub (p + n) z
  have r := rng32 ((p + n) - z)
  rw [Int32.lt_iff_toInt_lt] at hg
  rcases hc.1 with rfl | rfl
  · have q : (16 : Int32).toInt = 16 := rfl
    omega
  · have q : (34 : Int32).toInt = 34 := rfl
    omega
theorem own_grow {l m : List Int32} {p n z : Int32} (hl : own_len l p) (hm : own_len m n) (h : l.length + m.length ≤ 34) {vs : List Value} (hc : own_cap z vs) (hg : (0 : Int32) < ((p + n) - z)) : z = (16 : Int32) ∧ ¬ (34 : Int32) < (p + n) ∧ ¬ (p + n) < 0 := by
  have e := own_lapp hl hm h
  unfold own_len at *
  rw [List.length_append] at e
  have z0 : (0 : Int32).toInt = 0 := rfl
  have q : (34 : Int32).toInt = 34 := rfl
  have a := c_isub (p + n) z
  have r := rng32 ((p + n) - z)
  rw [Int32.lt_iff_toInt_lt] at hg
  refine ⟨?_, by rw [Int32.lt_iff_toInt_lt]; omega, by rw [Int32.lt_iff_toInt_lt]; omega⟩
  rcases hc.1 with rfl | rfl
  · rfl
  · exfalso; omega
theorem own_mx {p : Int32} (hg : (0 : Int32) < (p - (16 : Int32))) (h : ¬ (34 : Int32) < p) (h0 : ¬ p < 0) : own_max (p - (16 : Int32)) (18 : Int32) = (18 : Int32) := by
  have z0 : (0 : Int32).toInt = 0 := rfl
  have z16 : (16 : Int32).toInt = 16 := rfl
  have z34 : (34 : Int32).toInt = 34 := rfl
  have z18 : (18 : Int32).toInt = 18 := rfl
  have a := c_isub p 16
  have r := rng32 (p - 16)
  have r' := rng32 p
  rw [Int32.lt_iff_toInt_lt] at hg h h0
  unfold own_max; split
  · rfl
  · rename_i q; rw [Int32.lt_iff_toInt_lt] at q; rw [← Int32.toInt_inj]; omega
def own_in (l : List Int32) (z : Int32) : Prop := (l.length : Int) ≤ z.toInt
theorem own_lt2 {l : List Int32} {p z : Int32} (hn : own_len l p) (hi : own_in l z) (h : ¬ p = z) : p < z := by
  unfold own_len own_in at *
  rw [← Int32.toInt_inj] at h; rw [Int32.lt_iff_toInt_lt]; omega
theorem own_i16 {l : List Int32} (h : own_in l (16 : Int32)) : l.length ≤ 16 := by
  unfold own_in at h; have q : (16 : Int32).toInt = 16 := rfl
  omega
theorem own_fit34 {l m : List Int32} (h : l.length + m.length ≤ 34) : own_fit l m (34 : Int32) := by
  unfold own_fit; have q : (34 : Int32).toInt = 34 := rfl
  omega
theorem own_fin {l m : List Int32} {z : Int32} (h : own_fit l m z) : own_in (l ++ m) z := by
  unfold own_fit at h; unfold own_in; rw [List.length_append]; exact h
theorem own_co {l : List Int32} {vs vx : List Value} (H : own_has vs l) (h : l.length ≤ 16) (e : vx = ([(.int 0), (.int 0), (.int 0), (.int 0), (.int 0), (.int 0), (.int 0), (.int 0), (.int 0), (.int 0), (.int 0), (.int 0), (.int 0), (.int 0), (.int 0), (.int 0), (.int 0), (.int 0), (.int 0), (.int 0), (.int 0), (.int 0), (.int 0), (.int 0), (.int 0), (.int 0), (.int 0), (.int 0), (.int 0), (.int 0), (.int 0), (.int 0), (.int 0), (.int 0)] : List Value).take (0 : Int32).toNatClampNeg ++ (List.range (16 : Int32).toNatClampNeg).map (fun i => vs.getD ((0 : Int32).toNatClampNeg + i) (.int 0)) ++ ([(.int 0), (.int 0), (.int 0), (.int 0), (.int 0), (.int 0), (.int 0), (.int 0), (.int 0), (.int 0), (.int 0), (.int 0), (.int 0), (.int 0), (.int 0), (.int 0), (.int 0), (.int 0), (.int 0), (.int 0), (.int 0), (.int 0), (.int 0), (.int 0), (.int 0), (.int 0), (.int 0), (.int 0), (.int 0), (.int 0), (.int 0), (.int 0), (.int 0), (.int 0)] : List Value).drop ((0 : Int32).toNatClampNeg + (16 : Int32).toNatClampNeg)) : own_has vx l ∧ own_cap (34 : Int32) vx := by
  have z0 : (0 : Int32).toNatClampNeg = 0 := rfl
  have z16 : (16 : Int32).toNatClampNeg = 16 := rfl
  rw [z0, z16] at e
  refine ⟨?_, Or.inr rfl, ?_⟩
  · subst e
    intro i hi
    have k := H i hi
    have hr : i < 16 := by omega
    rw [List.take_zero, List.nil_append, List.getD_eq_getElem?_getD, List.getElem?_append_left (by rw [List.length_map, List.length_range]; exact hr), List.getElem?_map, List.getElem?_range hr, Option.map_some, Option.getD_some, Nat.zero_add, k]
  · subst e
    simp only [List.length_append, List.length_map, List.length_range]; decide
theorem own_orc {P : Prop} {a b : Addr} {n : Nat} (h : a = b ∨ P) (h1 : n ≤ b) (h2 : P → n ≤ a) : n ≤ a := h.elim (fun e => e ▸ h1) h2
theorem own_orn {P : Prop} {a b x : Addr} (h : a = b ∨ P) (h1 : x ≠ b) (h2 : P → x ≠ a) : x ≠ a := h.elim (fun e => e ▸ h1) h2
theorem own_ors {P : Prop} {a b : Addr} {Z : State} {EL : List (String × Nat)} {vm : Vm} {hp : Heap} (h : a = b ∨ P) (h1 : Safe Z EL vm hp b) (h2 : P → Safe Z EL vm hp a) : Safe Z EL vm hp a := h.elim (fun e => e ▸ h1) h2
theorem own_nf {args : Array Value} {s : State} {y y' : MethodName} {C : String} (ws : (Jvm.Cond.selects C y' y').before args s = true) (e : y'.cls = y.cls) : NotFace s y := fun r0 h0 => by
  obtain ⟨c2, r2, m2, q1, q2, q3, q4, kP, hkP, hkPi⟩ := Cond.selects_spec ws
  have a := findClass_of_methodNamed q3
  have b := findClass_of_methodNamed h0
  rw [e, b] at a
  have e2 : r0.cls = m2.cls := Option.some.inj a
  exact ⟨kP, by rw [e2]; exact hkP, hkPi⟩
def own_by (c : Int32) : Int32 := c.toInt8.toInt32
theorem own_by2 (c : Int32) : (c.toInt8.toInt32).toInt8.toInt32 = own_by c := by
  unfold own_by
  have a := c_i2b c
  have b := c_i2b c.toInt8.toInt32
  rw [← Int32.toInt_inj]; omega
theorem own_nc8 {c : Int32} (h : ¬ c < 0 ∧ ¬ (255 : Int32) < c) : (nar .char c) = c := by
  have e : nar .char c = c.toUInt32.toUInt16.toUInt32.toInt32 := rfl
  have z0 : (0 : Int32).toInt = 0 := rfl
  have z1 : (255 : Int32).toInt = 255 := rfl
  obtain ⟨h1, h2⟩ := h
  rw [Int32.lt_iff_toInt_lt] at h1 h2
  rw [e, ← Int32.toInt_inj]
  have := c_i2c c
  omega
theorem own_len0 : own_len [] (0 : Int32) := rfl
theorem own_in0 : own_in [] (16 : Int32) := by unfold own_in; decide
theorem own_hasL {vs : List Value} {l : List Int32} (h : vs = l.map Value.int) : own_has vs l := fun i hi => by
  subst h; simp [List.getD_eq_getElem?_getD, hi]
def own_cl (n c0 c1 c2 : Int32) : List Int32 := if n = (0 : Int32) then [] else if n = (1 : Int32) then [own_by c0] else if n = (2 : Int32) then [own_by c0, own_by c1] else [own_by c0, own_by c1, own_by c2]
theorem own_clh0 {n c0 c1 c2 : Int32} (e : n = (0 : Int32)) : own_has [] (own_cl n c0 c1 c2) := by subst e; exact own_hasL rfl
theorem own_clh1 {n c0 c1 c2 : Int32} (e : n = (1 : Int32)) : own_has [.int (own_by c0)] (own_cl n c0 c1 c2) := by subst e; exact own_hasL rfl
theorem own_clh2 {n c0 c1 c2 : Int32} (e : n = (2 : Int32)) : own_has [.int (own_by c0), .int (own_by c1)] (own_cl n c0 c1 c2) := by subst e; exact own_hasL rfl
theorem own_clh3 {n c0 c1 c2 : Int32} (e : n = (3 : Int32)) : own_has [.int (own_by c0), .int (own_by c1), .int (own_by c2)] (own_cl n c0 c1 c2) := by subst e; exact own_hasL rfl
theorem own_cln {n c0 c1 c2 : Int32} (h : n = (0 : Int32) ∨ n = (1 : Int32) ∨ n = (2 : Int32) ∨ n = (3 : Int32)) : own_len (own_cl n c0 c1 c2) n := by
  rcases h with rfl | rfl | rfl | rfl <;> (unfold own_len; rfl)
theorem own_clk {n c0 c1 c2 : Int32} (h : n = (0 : Int32) ∨ n = (1 : Int32) ∨ n = (2 : Int32) ∨ n = (3 : Int32)) : (own_cl n c0 c1 c2).length ≤ 3 := by
  rcases h with rfl | rfl | rfl | rfl <;> exact Nat.le_of_ble_eq_true rfl
theorem own_n3e {n : Int32} (h : n = (0 : Int32) ∨ n = (1 : Int32) ∨ n = (2 : Int32) ∨ n = (3 : Int32)) (h0 : ¬ n = (0 : Int32)) (h1 : ¬ n = (1 : Int32)) (h2 : ¬ n = (2 : Int32)) : n = (3 : Int32) := by
  rcases h with h | h | h | h
  · exact absurd h h0
  · exact absurd h h1
  · exact absurd h h2
  · exact h
theorem own_n03 (x : Int32) : (x &&& (3 : Int32)) = (0 : Int32) ∨ (x &&& (3 : Int32)) = (1 : Int32) ∨ (x &&& (3 : Int32)) = (2 : Int32) ∨ (x &&& (3 : Int32)) = (3 : Int32) := by
  have h := c_mask x (3 : Int32) 2 (by decide) (by decide)
  simp only [← Int32.toInt_inj, Int32.reduceToInt]; omega
theorem own_c8 (x : Int32) : ¬ ((x &&& (255 : Int32)).toUInt32.toUInt16.toUInt32.toInt32) < 0 ∧ ¬ (255 : Int32) < ((x &&& (255 : Int32)).toUInt32.toUInt16.toUInt32.toInt32) := by
  have z0 : (0 : Int32).toInt = 0 := rfl
  have z1 : (255 : Int32).toInt = 255 := rfl
  have h := c_mask x (255 : Int32) 8 (by decide) (by decide)
  generalize (x &&& (255 : Int32)) = y at *
  have h3 := c_i2c y
  rw [Int32.lt_iff_toInt_lt, Int32.lt_iff_toInt_lt]; omega
theorem own_il {l : List Int32} {z j : Int32} (h : own_len l z) (h0 : ¬ j < 0) (hj : j.toNatClampNeg < l.length) : j < z := by
  unfold own_len at h
  have z0 : (0 : Int32).toInt = 0 := rfl
  rw [Int32.lt_iff_toInt_lt] at h0 ⊢; simp only [Int32.toNatClampNeg] at hj; omega
theorem own_eqc {vs : List Value} {l : List Int32} {j ch : Int32} (H : own_has vs l) (hj : j.toNatClampNeg < l.length) (hc : nar .char (own_ch (l.getD j.toNatClampNeg 0)) = ch) : nar .char (own_ch (own_at vs j)) = ch := by rw [own_rd H hj]; exact hc
theorem own_lz {l : List Int32} {z k : Int32} (h : own_len l z) (e : (l.length : Int) = k.toInt) : z = k := by
  unfold own_len at h; rw [← Int32.toInt_inj, h, e]
theorem own_lx {a b n : Int32} (hab : a < b) (h : ¬ a < n) : ¬ b < n := by
  rw [Int32.lt_iff_toInt_lt] at *; omega
theorem own_bc {c : Int32} (h : ¬ c < 0 ∧ ¬ (255 : Int32) < c) : nar .char (own_ch (own_by c)) = c := by
  have z0 : (0 : Int32).toInt = 0 := rfl
  have z1 : (255 : Int32).toInt = 255 := rfl
  obtain ⟨h1, h2⟩ := h
  rw [Int32.lt_iff_toInt_lt] at h1 h2
  unfold own_ch own_by
  have a := c_i2b c
  generalize c.toInt8.toInt32 = x at *
  have b := c_mask x (255 : Int32) 8 (by decide) (by decide)
  generalize (x &&& (255 : Int32)) = y at *
  have d := c_i2c y
  generalize y.toUInt32.toUInt16.toUInt32.toInt32 = v at *
  have e1 : nar .char v = v.toUInt32.toUInt16.toUInt32.toInt32 := rfl
  rw [e1]
  have f := c_i2c v
  generalize v.toUInt32.toUInt16.toUInt32.toInt32 = w at *
  have e2 : nar .char w = w.toUInt32.toUInt16.toUInt32.toInt32 := rfl
  rw [e2, ← Int32.toInt_inj]
  have g := c_i2c w
  omega
section OwnStart
variable {args : Array Value} {s : State}
theorem own_eqN {t : Term} (h : (Jvm.Cond.eq t .null).value args s none s [] = some true) : t.eval args s none [] s = some .null := by
  obtain ⟨x, y, h1, h2, h3, h4⟩ := cmp_v (Or.inl h)
  obtain rfl : y = .null := Option.some.inj (h2.symm.trans rfl)
  have q := gotT (eq_R h1 h2 h4.2 h4.1) h
  rw [h1, q]
theorem own_elA {t : Term} {a : Addr} {cl : Cell} {k : Int32} {v : Value} (ht : t.eval args s none [] s = some (.ref a)) (A : Arr s s.heap a cl .byte) (h : (Term.elem t (.int k)).eval args s none [] s = some v) (hk : ¬ k < 0) : cl.slots[k.toNatClampNeg]? = some v := by
  rw [elem_f ht (Term.int_eval k) (Arr.fin (Vm.Alike.refl _) A) hk] at h; exact h
theorem own_len' {t : Term} {cl : Cell} {k : Int32} (h : (Term.length t).eval args s none [] s = some (.int k)) {a : Addr} (ht : t.eval args s none [] s = some (.ref a)) (A : Arr s s.heap a cl .byte) : cl.slots.size < 2 ^ 31 ∧ cl.slots.size.toInt32 = k := by
  have ha : s.arrayAt? a = some cl := Arr.fin (Vm.Alike.refl _) A
  by_cases hl : cl.slots.size < 2 ^ 31
  · rw [len_f ht ha hl] at h; cases h; exact ⟨hl, rfl⟩
  · simp [Term.eval, ht, ha, hl] at h
end OwnStart
abbrev Bc13 := jdk_42_method_152_code
theorem d13_0 : decode Bc13 0 = .ok (.getstatic 38, 3) := by decide +kernel
theorem d13_3 : decode Bc13 3 = .ok (.ifCond .eq 10, 3) := by decide +kernel
theorem d13_6 : decode Bc13 6 = .ok (.aload_n 0, 1) := by decide +kernel
theorem d13_7 : decode Bc13 7 = .ok (.getfield 15, 3) := by decide +kernel
theorem d13_10 : decode Bc13 10 = .ok (.goto 4, 3) := by decide +kernel
theorem d13_14 : decode Bc13 14 = .ok (.ireturn, 1) := by decide +kernel
theorem pn_13 : plainName "java/lang/String" = true := by first | (simp [plainName, overriddenIn]; done) | decide +kernel
abbrev Bc35 := jdk_42_method_154_code
theorem d35_0 : decode Bc35 0 = .ok (.getstatic 38, 3) := by decide +kernel
theorem d35_3 : decode Bc35 3 = .ok (.ifCond .eq 14, 3) := by decide +kernel
theorem d35_6 : decode Bc35 6 = .ok (.aload_n 0, 1) := by decide +kernel
theorem d35_7 : decode Bc35 7 = .ok (.getfield 15, 3) := by decide +kernel
theorem d35_10 : decode Bc35 10 = .ok (.ifCond .ne 7, 3) := by decide +kernel
theorem d35_13 : decode Bc35 13 = .ok (.iconst 1, 1) := by decide +kernel
theorem d35_14 : decode Bc35 14 = .ok (.goto 4, 3) := by decide +kernel
theorem d35_18 : decode Bc35 18 = .ok (.ireturn, 1) := by decide +kernel
theorem pn_35 : plainName "java/lang/String" = true := by first | (simp [plainName, overriddenIn]; done) | decide +kernel
abbrev Bc12 := jdk_42_method_54_code
theorem d12_0 : decode Bc12 0 = .ok (.aload_n 0, 1) := by decide +kernel
theorem d12_1 : decode Bc12 1 = .ok (.getfield 9, 3) := by decide +kernel
theorem d12_4 : decode Bc12 4 = .ok (.arraylength, 1) := by decide +kernel
theorem d12_5 : decode Bc12 5 = .ok (.aload_n 0, 1) := by decide +kernel
theorem d12_6 : decode Bc12 6 = .ok (.invokevirtual 335, 3) := by decide +kernel
theorem pd___B : parseMethodDescriptor "()B" = some ⟨[], some .byte⟩ := by decide +kernel
theorem d12_9 : decode Bc12 9 = .ok (.ishr, 1) := by decide +kernel
theorem d12_10 : decode Bc12 10 = .ok (.ireturn, 1) := by decide +kernel
theorem pn_12 : plainName "java/lang/String" = true := by first | (simp [plainName, overriddenIn]; done) | decide +kernel
abbrev Bc20 := jdk_29_method_65_code
theorem d20_0 : decode Bc20 0 = .ok (.iload_n 0, 1) := by decide +kernel
theorem d20_1 : decode Bc20 1 = .ok (.iload_n 1, 1) := by decide +kernel
theorem d20_2 : decode Bc20 2 = .ok (.if_icmp .lt 7, 3) := by decide +kernel
theorem d20_9 : decode Bc20 9 = .ok (.iload_n 1, 1) := by decide +kernel
theorem d20_10 : decode Bc20 10 = .ok (.ireturn, 1) := by decide +kernel
theorem d20_5 : decode Bc20 5 = .ok (.iload_n 0, 1) := by decide +kernel
theorem d20_6 : decode Bc20 6 = .ok (.goto 4, 3) := by decide +kernel
abbrev Bc22 := jdk_29_method_69_code
theorem d22_0 : decode Bc22 0 = .ok (.iload_n 0, 1) := by decide +kernel
theorem d22_1 : decode Bc22 1 = .ok (.iload_n 1, 1) := by decide +kernel
theorem d22_2 : decode Bc22 2 = .ok (.if_icmp .gt 7, 3) := by decide +kernel
theorem d22_9 : decode Bc22 9 = .ok (.iload_n 1, 1) := by decide +kernel
theorem d22_10 : decode Bc22 10 = .ok (.ireturn, 1) := by decide +kernel
theorem d22_5 : decode Bc22 5 = .ok (.iload_n 0, 1) := by decide +kernel
theorem d22_6 : decode Bc22 6 = .ok (.goto 4, 3) := by decide +kernel
abbrev Bc32 := jdk_65_method_131_code
theorem d32_0 : decode Bc32 0 = .ok (.iload_n 1, 1) := by decide +kernel
theorem d32_1 : decode Bc32 1 = .ok (.iload_n 0, 1) := by decide +kernel
theorem d32_2 : decode Bc32 2 = .ok (.if_icmp .ge 35, 3) := by decide +kernel
theorem d32_37 : decode Bc32 37 = .ok (.return_, 1) := by decide +kernel
theorem pn_32 : plainName "java/util/Arrays" = true := by first | (simp [plainName, overriddenIn]; done) | decide +kernel
abbrev Bc38 := jdk_41_method_11_code
theorem d38_0 : decode Bc38 0 = .ok (.iload_n 0, 1) := by decide +kernel
theorem d38_1 : decode Bc38 1 = .ok (.ifCond .lt 8, 3) := by decide +kernel
theorem d38_4 : decode Bc38 4 = .ok (.iload_n 0, 1) := by decide +kernel
theorem d38_5 : decode Bc38 5 = .ok (.iload_n 1, 1) := by decide +kernel
theorem d38_6 : decode Bc38 6 = .ok (.if_icmp .lt 10, 3) := by decide +kernel
theorem d38_16 : decode Bc38 16 = .ok (.iload_n 0, 1) := by decide +kernel
theorem d38_17 : decode Bc38 17 = .ok (.ireturn, 1) := by decide +kernel
theorem pn_38 : plainName "jdk/internal/util/Preconditions" = true := by first | (simp [plainName, overriddenIn]; done) | decide +kernel
abbrev Bc37 := jdk_42_method_155_code
theorem d37_0 : decode Bc37 0 = .ok (.iload_n 0, 1) := by decide +kernel
theorem d37_1 : decode Bc37 1 = .ok (.iload_n 1, 1) := by decide +kernel
theorem d37_2 : decode Bc37 2 = .ok (.getstatic 1053, 3) := by decide +kernel
theorem d37_5 : decode Bc37 5 = .ok (.invokestatic 1059, 3) := by decide +kernel
theorem pd__IILjava_util_function_BiFunction__I : parseMethodDescriptor "(IILjava/util/function/BiFunction;)I" = some ⟨[.int, .int, (.object "java/util/function/BiFunction")], some .int⟩ := by decide +kernel
theorem d37_8 : decode Bc37 8 = .ok (.pop, 1) := by decide +kernel
theorem d37_9 : decode Bc37 9 = .ok (.return_, 1) := by decide +kernel
theorem pn_37 : plainName "java/lang/String" = true := by first | (simp [plainName, overriddenIn]; done) | decide +kernel
abbrev Bc36 := jdk_43_method_2_code
theorem d36_0 : decode Bc36 0 = .ok (.iload_n 1, 1) := by decide +kernel
theorem d36_1 : decode Bc36 1 = .ok (.aload_n 0, 1) := by decide +kernel
theorem d36_2 : decode Bc36 2 = .ok (.arraylength, 1) := by decide +kernel
theorem d36_3 : decode Bc36 3 = .ok (.invokestatic 9, 3) := by decide +kernel
theorem pd__II_V : parseMethodDescriptor "(II)V" = some ⟨[.int, .int], none⟩ := by decide +kernel
theorem d36_6 : decode Bc36 6 = .ok (.aload_n 0, 1) := by decide +kernel
theorem d36_7 : decode Bc36 7 = .ok (.iload_n 1, 1) := by decide +kernel
theorem d36_8 : decode Bc36 8 = .ok (.baload, 1) := by decide +kernel
theorem d36_9 : decode Bc36 9 = .ok (.sipush 255, 3) := by decide +kernel
theorem d36_12 : decode Bc36 12 = .ok (.iand, 1) := by decide +kernel
theorem d36_13 : decode Bc36 13 = .ok (.i2c, 1) := by decide +kernel
theorem d36_14 : decode Bc36 14 = .ok (.ireturn, 1) := by decide +kernel
theorem pn_36 : plainName "java/lang/StringLatin1" = true := by first | (simp [plainName, overriddenIn]; done) | decide +kernel
abbrev Bc34 := jdk_42_method_56_code
theorem d34_0 : decode Bc34 0 = .ok (.aload_n 0, 1) := by decide +kernel
theorem d34_1 : decode Bc34 1 = .ok (.invokevirtual 492, 3) := by decide +kernel
theorem pd___Z : parseMethodDescriptor "()Z" = some ⟨[], some .boolean⟩ := by decide +kernel
theorem d34_4 : decode Bc34 4 = .ok (.ifCond .eq 12, 3) := by decide +kernel
theorem d34_7 : decode Bc34 7 = .ok (.aload_n 0, 1) := by decide +kernel
theorem d34_8 : decode Bc34 8 = .ok (.getfield 9, 3) := by decide +kernel
theorem d34_11 : decode Bc34 11 = .ok (.iload_n 1, 1) := by decide +kernel
theorem d34_12 : decode Bc34 12 = .ok (.invokestatic 495, 3) := by decide +kernel
theorem pd___BI_C : parseMethodDescriptor "([BI)C" = some ⟨[(.array .byte), .int], some .char⟩ := by decide +kernel
theorem d34_15 : decode Bc34 15 = .ok (.ireturn, 1) := by decide +kernel
theorem pn_34 : plainName "java/lang/String" = true := by first | (simp [plainName, overriddenIn]; done) | decide +kernel
abbrev Bc31 := jdk_65_method_133_code
theorem d31_0 : decode Bc31 0 = .ok (.iload_n 1, 1) := by decide +kernel
theorem d31_1 : decode Bc31 1 = .ok (.iload_n 2, 1) := by decide +kernel
theorem d31_2 : decode Bc31 2 = .ok (.invokestatic 343, 3) := by decide +kernel
theorem d31_5 : decode Bc31 5 = .ok (.iload_n 2, 1) := by decide +kernel
theorem d31_6 : decode Bc31 6 = .ok (.iload_n 1, 1) := by decide +kernel
theorem d31_7 : decode Bc31 7 = .ok (.isub, 1) := by decide +kernel
theorem d31_8 : decode Bc31 8 = .ok (.istore_n 3, 1) := by decide +kernel
theorem d31_9 : decode Bc31 9 = .ok (.iload_n 3, 1) := by decide +kernel
theorem d31_10 : decode Bc31 10 = .ok (.newarray .byte, 2) := by decide +kernel
theorem d31_12 : decode Bc31 12 = .ok (.astore 4, 2) := by decide +kernel
theorem d31_14 : decode Bc31 14 = .ok (.aload_n 0, 1) := by decide +kernel
theorem d31_15 : decode Bc31 15 = .ok (.iload_n 1, 1) := by decide +kernel
theorem d31_16 : decode Bc31 16 = .ok (.aload 4, 2) := by decide +kernel
theorem d31_18 : decode Bc31 18 = .ok (.iconst 0, 1) := by decide +kernel
theorem d31_19 : decode Bc31 19 = .ok (.aload_n 0, 1) := by decide +kernel
theorem d31_20 : decode Bc31 20 = .ok (.arraylength, 1) := by decide +kernel
theorem d31_21 : decode Bc31 21 = .ok (.iload_n 1, 1) := by decide +kernel
theorem d31_22 : decode Bc31 22 = .ok (.isub, 1) := by decide +kernel
theorem d31_23 : decode Bc31 23 = .ok (.iload_n 3, 1) := by decide +kernel
theorem d31_24 : decode Bc31 24 = .ok (.invokestatic 304, 3) := by decide +kernel
theorem pd__II_I : parseMethodDescriptor "(II)I" = some ⟨[.int, .int], some .int⟩ := by decide +kernel
theorem d31_27 : decode Bc31 27 = .ok (.invokestatic 150, 3) := by decide +kernel
theorem d31_30 : decode Bc31 30 = .ok (.aload 4, 2) := by decide +kernel
theorem d31_32 : decode Bc31 32 = .ok (.areturn, 1) := by decide +kernel
theorem pn_31 : plainName "java/util/Arrays" = true := by first | (simp [plainName, overriddenIn]; done) | decide +kernel
abbrev Bc30 := jdk_65_method_132_code
theorem d30_0 : decode Bc30 0 = .ok (.iload_n 1, 1) := by decide +kernel
theorem d30_1 : decode Bc30 1 = .ok (.ifCond .ne 9, 3) := by decide +kernel
theorem d30_4 : decode Bc30 4 = .ok (.iload_n 2, 1) := by decide +kernel
theorem d30_5 : decode Bc30 5 = .ok (.aload_n 0, 1) := by decide +kernel
theorem d30_6 : decode Bc30 6 = .ok (.arraylength, 1) := by decide +kernel
theorem d30_7 : decode Bc30 7 = .ok (.if_icmp .eq 10, 3) := by decide +kernel
theorem d30_17 : decode Bc30 17 = .ok (.aload_n 0, 1) := by decide +kernel
theorem d30_18 : decode Bc30 18 = .ok (.invokevirtual 310, 3) := by decide +kernel
theorem d30_21 : decode Bc30 21 = .ok (.checkcast 311, 3) := by decide +kernel
theorem d30_24 : decode Bc30 24 = .ok (.areturn, 1) := by decide +kernel
theorem d30_10 : decode Bc30 10 = .ok (.aload_n 0, 1) := by decide +kernel
theorem d30_11 : decode Bc30 11 = .ok (.iload_n 1, 1) := by decide +kernel
theorem d30_12 : decode Bc30 12 = .ok (.iload_n 2, 1) := by decide +kernel
theorem d30_13 : decode Bc30 13 = .ok (.invokestatic 339, 3) := by decide +kernel
theorem pd___BII__B : parseMethodDescriptor "([BII)[B" = some ⟨[(.array .byte), .int, .int], some (.array .byte)⟩ := by decide +kernel
theorem d30_16 : decode Bc30 16 = .ok (.areturn, 1) := by decide +kernel
theorem pn_30 : plainName "java/util/Arrays" = true := by first | (simp [plainName, overriddenIn]; done) | decide +kernel
abbrev Bc9 := jdk_68_method_2_code
theorem d9_0 : decode Bc9 0 = .ok (.aload_n 0, 1) := by decide +kernel
theorem d9_1 : decode Bc9 1 = .ok (.invokespecial 3, 3) := by decide +kernel
theorem d9_4 : decode Bc9 4 = .ok (.getstatic 18, 3) := by decide +kernel
theorem d9_7 : decode Bc9 7 = .ok (.ifCond .eq 18, 3) := by decide +kernel
theorem d9_10 : decode Bc9 10 = .ok (.aload_n 0, 1) := by decide +kernel
theorem d9_11 : decode Bc9 11 = .ok (.iload_n 1, 1) := by decide +kernel
theorem d9_12 : decode Bc9 12 = .ok (.newarray .byte, 2) := by decide +kernel
theorem d9_14 : decode Bc9 14 = .ok (.putfield 15, 3) := by decide +kernel
theorem d9_17 : decode Bc9 17 = .ok (.aload_n 0, 1) := by decide +kernel
theorem d9_18 : decode Bc9 18 = .ok (.iconst 0, 1) := by decide +kernel
theorem d9_19 : decode Bc9 19 = .ok (.putfield 22, 3) := by decide +kernel
theorem d9_22 : decode Bc9 22 = .ok (.goto 16, 3) := by decide +kernel
theorem d9_38 : decode Bc9 38 = .ok (.return_, 1) := by decide +kernel
theorem pn_9 : plainName "java/lang/AbstractStringBuilder" = true := by first | (simp [plainName, overriddenIn]; done) | decide +kernel
abbrev Bc8 := jdk_67_method_1_code
theorem d8_0 : decode Bc8 0 = .ok (.aload_n 0, 1) := by decide +kernel
theorem d8_1 : decode Bc8 1 = .ok (.bipush 16, 2) := by decide +kernel
theorem d8_3 : decode Bc8 3 = .ok (.invokespecial 1, 3) := by decide +kernel
theorem pd__I_V : parseMethodDescriptor "(I)V" = some ⟨[.int], none⟩ := by decide +kernel
theorem d8_6 : decode Bc8 6 = .ok (.return_, 1) := by decide +kernel
theorem pn_8 : plainName "java/lang/StringBuilder" = true := by first | (simp [plainName, overriddenIn]; done) | decide +kernel
abbrev Bc26 := jdk_68_method_64_code
theorem d26_0 : decode Bc26 0 = .ok (.aload_n 0, 1) := by decide +kernel
theorem d26_1 : decode Bc26 1 = .ok (.getfield 15, 3) := by decide +kernel
theorem d26_4 : decode Bc26 4 = .ok (.areturn, 1) := by decide +kernel
theorem pn_26 : plainName "java/lang/AbstractStringBuilder" = true := by first | (simp [plainName, overriddenIn]; done) | decide +kernel
abbrev Bc28 := jdk_68_method_6_code
theorem d28_0 : decode Bc28 0 = .ok (.aload_n 0, 1) := by decide +kernel
theorem d28_1 : decode Bc28 1 = .ok (.getfield 79, 3) := by decide +kernel
theorem d28_4 : decode Bc28 4 = .ok (.ireturn, 1) := by decide +kernel
theorem pn_28 : plainName "java/lang/AbstractStringBuilder" = true := by first | (simp [plainName, overriddenIn]; done) | decide +kernel
abbrev Bc27 := jdk_67_method_93_code
theorem d27_0 : decode Bc27 0 = .ok (.aload_n 0, 1) := by decide +kernel
theorem d27_1 : decode Bc27 1 = .ok (.invokespecial 343, 3) := by decide +kernel
theorem pd___I : parseMethodDescriptor "()I" = some ⟨[], some .int⟩ := by decide +kernel
theorem d27_4 : decode Bc27 4 = .ok (.ireturn, 1) := by decide +kernel
theorem pn_27 : plainName "java/lang/StringBuilder" = true := by first | (simp [plainName, overriddenIn]; done) | decide +kernel
abbrev Bc29 := jdk_68_method_68_code
theorem d29_0 : decode Bc29 0 = .ok (.getstatic 18, 3) := by decide +kernel
theorem d29_3 : decode Bc29 3 = .ok (.ifCond .eq 14, 3) := by decide +kernel
theorem d29_6 : decode Bc29 6 = .ok (.aload_n 0, 1) := by decide +kernel
theorem d29_7 : decode Bc29 7 = .ok (.getfield 22, 3) := by decide +kernel
theorem d29_10 : decode Bc29 10 = .ok (.ifCond .ne 7, 3) := by decide +kernel
theorem d29_13 : decode Bc29 13 = .ok (.iconst 1, 1) := by decide +kernel
theorem d29_14 : decode Bc29 14 = .ok (.goto 4, 3) := by decide +kernel
theorem d29_18 : decode Bc29 18 = .ok (.ireturn, 1) := by decide +kernel
theorem pn_29 : plainName "java/lang/AbstractStringBuilder" = true := by first | (simp [plainName, overriddenIn]; done) | decide +kernel
abbrev Bc19 := jdk_48_method_27_code
theorem d19_0 : decode Bc19 0 = .ok (.iload_n 0, 1) := by decide +kernel
theorem d19_1 : decode Bc19 1 = .ok (.iload_n 1, 1) := by decide +kernel
theorem d19_2 : decode Bc19 2 = .ok (.iload_n 2, 1) := by decide +kernel
theorem d19_3 : decode Bc19 3 = .ok (.invokestatic 194, 3) := by decide +kernel
theorem d19_6 : decode Bc19 6 = .ok (.iadd, 1) := by decide +kernel
theorem d19_7 : decode Bc19 7 = .ok (.istore_n 3, 1) := by decide +kernel
theorem d19_8 : decode Bc19 8 = .ok (.iconst 0, 1) := by decide +kernel
theorem d19_9 : decode Bc19 9 = .ok (.iload_n 3, 1) := by decide +kernel
theorem d19_10 : decode Bc19 10 = .ok (.if_icmp .ge 11, 3) := by decide +kernel
theorem d19_13 : decode Bc19 13 = .ok (.iload_n 3, 1) := by decide +kernel
theorem d19_14 : decode Bc19 14 = .ok (.ldc 200, 2) := by decide +kernel
theorem d19_16 : decode Bc19 16 = .ok (.if_icmp .gt 5, 3) := by decide +kernel
theorem d19_19 : decode Bc19 19 = .ok (.iload_n 3, 1) := by decide +kernel
theorem d19_20 : decode Bc19 20 = .ok (.ireturn, 1) := by decide +kernel
theorem pn_19 : plainName "jdk/internal/util/ArraysSupport" = true := by first | (simp [plainName, overriddenIn]; done) | decide +kernel
abbrev Bc18 := jdk_68_method_10_code
theorem d18_0 : decode Bc18 0 = .ok (.aload_n 0, 1) := by decide +kernel
theorem d18_1 : decode Bc18 1 = .ok (.getfield 15, 3) := by decide +kernel
theorem d18_4 : decode Bc18 4 = .ok (.arraylength, 1) := by decide +kernel
theorem d18_5 : decode Bc18 5 = .ok (.istore_n 2, 1) := by decide +kernel
theorem d18_6 : decode Bc18 6 = .ok (.iload_n 1, 1) := by decide +kernel
theorem d18_7 : decode Bc18 7 = .ok (.aload_n 0, 1) := by decide +kernel
theorem d18_8 : decode Bc18 8 = .ok (.getfield 22, 3) := by decide +kernel
theorem d18_11 : decode Bc18 11 = .ok (.ishl, 1) := by decide +kernel
theorem d18_12 : decode Bc18 12 = .ok (.istore_n 3, 1) := by decide +kernel
theorem d18_13 : decode Bc18 13 = .ok (.iload_n 3, 1) := by decide +kernel
theorem d18_14 : decode Bc18 14 = .ok (.iload_n 2, 1) := by decide +kernel
theorem d18_15 : decode Bc18 15 = .ok (.isub, 1) := by decide +kernel
theorem d18_16 : decode Bc18 16 = .ok (.istore 4, 2) := by decide +kernel
theorem d18_18 : decode Bc18 18 = .ok (.iload_n 2, 1) := by decide +kernel
theorem d18_19 : decode Bc18 19 = .ok (.iload 4, 2) := by decide +kernel
theorem d18_21 : decode Bc18 21 = .ok (.iload_n 2, 1) := by decide +kernel
theorem d18_22 : decode Bc18 22 = .ok (.iconst 2, 1) := by decide +kernel
theorem d18_23 : decode Bc18 23 = .ok (.aload_n 0, 1) := by decide +kernel
theorem d18_24 : decode Bc18 24 = .ok (.getfield 22, 3) := by decide +kernel
theorem d18_27 : decode Bc18 27 = .ok (.ishl, 1) := by decide +kernel
theorem d18_28 : decode Bc18 28 = .ok (.iadd, 1) := by decide +kernel
theorem d18_29 : decode Bc18 29 = .ok (.invokestatic 114, 3) := by decide +kernel
theorem pd__III_I : parseMethodDescriptor "(III)I" = some ⟨[.int, .int, .int], some .int⟩ := by decide +kernel
theorem d18_32 : decode Bc18 32 = .ok (.istore 5, 2) := by decide +kernel
theorem d18_34 : decode Bc18 34 = .ok (.iload 5, 2) := by decide +kernel
theorem d18_36 : decode Bc18 36 = .ok (.ldc 39, 2) := by decide +kernel
theorem d18_38 : decode Bc18 38 = .ok (.if_icmp .ne 13, 3) := by decide +kernel
theorem d18_51 : decode Bc18 51 = .ok (.iload 5, 2) := by decide +kernel
theorem d18_53 : decode Bc18 53 = .ok (.aload_n 0, 1) := by decide +kernel
theorem d18_54 : decode Bc18 54 = .ok (.getfield 22, 3) := by decide +kernel
theorem d18_57 : decode Bc18 57 = .ok (.ishr, 1) := by decide +kernel
theorem d18_58 : decode Bc18 58 = .ok (.ireturn, 1) := by decide +kernel
theorem pn_18 : plainName "java/lang/AbstractStringBuilder" = true := by first | (simp [plainName, overriddenIn]; done) | decide +kernel
abbrev Bc21 := jdk_65_method_121_code
theorem d21_0 : decode Bc21 0 = .ok (.iload_n 1, 1) := by decide +kernel
theorem d21_1 : decode Bc21 1 = .ok (.aload_n 0, 1) := by decide +kernel
theorem d21_2 : decode Bc21 2 = .ok (.arraylength, 1) := by decide +kernel
theorem d21_3 : decode Bc21 3 = .ok (.if_icmp .ne 11, 3) := by decide +kernel
theorem d21_14 : decode Bc21 14 = .ok (.iload_n 1, 1) := by decide +kernel
theorem d21_15 : decode Bc21 15 = .ok (.newarray .byte, 2) := by decide +kernel
theorem d21_17 : decode Bc21 17 = .ok (.astore_n 2, 1) := by decide +kernel
theorem d21_18 : decode Bc21 18 = .ok (.aload_n 0, 1) := by decide +kernel
theorem d21_19 : decode Bc21 19 = .ok (.iconst 0, 1) := by decide +kernel
theorem d21_20 : decode Bc21 20 = .ok (.aload_n 2, 1) := by decide +kernel
theorem d21_21 : decode Bc21 21 = .ok (.iconst 0, 1) := by decide +kernel
theorem d21_22 : decode Bc21 22 = .ok (.aload_n 0, 1) := by decide +kernel
theorem d21_23 : decode Bc21 23 = .ok (.arraylength, 1) := by decide +kernel
theorem d21_24 : decode Bc21 24 = .ok (.iload_n 1, 1) := by decide +kernel
theorem d21_25 : decode Bc21 25 = .ok (.invokestatic 304, 3) := by decide +kernel
theorem d21_28 : decode Bc21 28 = .ok (.invokestatic 150, 3) := by decide +kernel
theorem d21_31 : decode Bc21 31 = .ok (.aload_n 2, 1) := by decide +kernel
theorem d21_32 : decode Bc21 32 = .ok (.areturn, 1) := by decide +kernel
theorem pn_21 : plainName "java/util/Arrays" = true := by first | (simp [plainName, overriddenIn]; done) | decide +kernel
abbrev Bc14 := jdk_68_method_9_code
theorem d14_0 : decode Bc14 0 = .ok (.aload_n 0, 1) := by decide +kernel
theorem d14_1 : decode Bc14 1 = .ok (.getfield 15, 3) := by decide +kernel
theorem d14_4 : decode Bc14 4 = .ok (.arraylength, 1) := by decide +kernel
theorem d14_5 : decode Bc14 5 = .ok (.aload_n 0, 1) := by decide +kernel
theorem d14_6 : decode Bc14 6 = .ok (.getfield 22, 3) := by decide +kernel
theorem d14_9 : decode Bc14 9 = .ok (.ishr, 1) := by decide +kernel
theorem d14_10 : decode Bc14 10 = .ok (.istore_n 2, 1) := by decide +kernel
theorem d14_11 : decode Bc14 11 = .ok (.iload_n 1, 1) := by decide +kernel
theorem d14_12 : decode Bc14 12 = .ok (.iload_n 2, 1) := by decide +kernel
theorem d14_13 : decode Bc14 13 = .ok (.isub, 1) := by decide +kernel
theorem d14_14 : decode Bc14 14 = .ok (.ifCond .le 24, 3) := by decide +kernel
theorem d14_38 : decode Bc14 38 = .ok (.return_, 1) := by decide +kernel
theorem pn_14 : plainName "java/lang/AbstractStringBuilder" = true := by first | (simp [plainName, overriddenIn]; done) | decide +kernel
theorem d14_17 : decode Bc14 17 = .ok (.aload_n 0, 1) := by decide +kernel
theorem d14_18 : decode Bc14 18 = .ok (.aload_n 0, 1) := by decide +kernel
theorem d14_19 : decode Bc14 19 = .ok (.getfield 15, 3) := by decide +kernel
theorem d14_22 : decode Bc14 22 = .ok (.aload_n 0, 1) := by decide +kernel
theorem d14_23 : decode Bc14 23 = .ok (.iload_n 1, 1) := by decide +kernel
theorem d14_24 : decode Bc14 24 = .ok (.invokevirtual 104, 3) := by decide +kernel
theorem pd__I_I : parseMethodDescriptor "(I)I" = some ⟨[.int], some .int⟩ := by decide +kernel
theorem d14_27 : decode Bc14 27 = .ok (.aload_n 0, 1) := by decide +kernel
theorem d14_28 : decode Bc14 28 = .ok (.getfield 22, 3) := by decide +kernel
theorem d14_31 : decode Bc14 31 = .ok (.ishl, 1) := by decide +kernel
theorem d14_32 : decode Bc14 32 = .ok (.invokestatic 108, 3) := by decide +kernel
theorem pd___BI__B : parseMethodDescriptor "([BI)[B" = some ⟨[(.array .byte), .int], some (.array .byte)⟩ := by decide +kernel
theorem d14_35 : decode Bc14 35 = .ok (.putfield 15, 3) := by decide +kernel
abbrev Bc16 := jdk_68_method_71_code
theorem d16_0 : decode Bc16 0 = .ok (.getstatic 18, 3) := by decide +kernel
theorem d16_3 : decode Bc16 3 = .ok (.ifCond .eq 18, 3) := by decide +kernel
theorem d16_6 : decode Bc16 6 = .ok (.aload_n 0, 1) := by decide +kernel
theorem d16_7 : decode Bc16 7 = .ok (.getfield 22, 3) := by decide +kernel
theorem d16_10 : decode Bc16 10 = .ok (.aload_n 1, 1) := by decide +kernel
theorem d16_11 : decode Bc16 11 = .ok (.invokevirtual 40, 3) := by decide +kernel
theorem d16_14 : decode Bc16 14 = .ok (.if_icmp .eq 7, 3) := by decide +kernel
theorem d16_21 : decode Bc16 21 = .ok (.return_, 1) := by decide +kernel
theorem pn_16 : plainName "java/lang/AbstractStringBuilder" = true := by first | (simp [plainName, overriddenIn]; done) | decide +kernel
abbrev Bc17 := jdk_42_method_147_code
theorem d17_0 : decode Bc17 0 = .ok (.aload_n 0, 1) := by decide +kernel
theorem d17_1 : decode Bc17 1 = .ok (.invokevirtual 335, 3) := by decide +kernel
theorem d17_4 : decode Bc17 4 = .ok (.iload_n 3, 1) := by decide +kernel
theorem d17_5 : decode Bc17 5 = .ok (.if_icmp .ne 23, 3) := by decide +kernel
theorem d17_8 : decode Bc17 8 = .ok (.aload_n 0, 1) := by decide +kernel
theorem d17_9 : decode Bc17 9 = .ok (.getfield 9, 3) := by decide +kernel
theorem d17_12 : decode Bc17 12 = .ok (.iconst 0, 1) := by decide +kernel
theorem d17_13 : decode Bc17 13 = .ok (.aload_n 1, 1) := by decide +kernel
theorem d17_14 : decode Bc17 14 = .ok (.iload_n 2, 1) := by decide +kernel
theorem d17_15 : decode Bc17 15 = .ok (.iload_n 3, 1) := by decide +kernel
theorem d17_16 : decode Bc17 16 = .ok (.ishl, 1) := by decide +kernel
theorem d17_17 : decode Bc17 17 = .ok (.aload_n 0, 1) := by decide +kernel
theorem d17_18 : decode Bc17 18 = .ok (.getfield 9, 3) := by decide +kernel
theorem d17_21 : decode Bc17 21 = .ok (.arraylength, 1) := by decide +kernel
theorem d17_22 : decode Bc17 22 = .ok (.invokestatic 212, 3) := by decide +kernel
theorem d17_25 : decode Bc17 25 = .ok (.goto 18, 3) := by decide +kernel
theorem d17_43 : decode Bc17 43 = .ok (.return_, 1) := by decide +kernel
theorem pn_17 : plainName "java/lang/String" = true := by first | (simp [plainName, overriddenIn]; done) | decide +kernel
abbrev Bc15 := jdk_68_method_73_code
theorem d15_0 : decode Bc15 0 = .ok (.aload_n 0, 1) := by decide +kernel
theorem d15_1 : decode Bc15 1 = .ok (.aload_n 2, 1) := by decide +kernel
theorem d15_2 : decode Bc15 2 = .ok (.invokevirtual 397, 3) := by decide +kernel
theorem pd__Ljava_lang_String__V : parseMethodDescriptor "(Ljava/lang/String;)V" = some ⟨[(.object "java/lang/String")], none⟩ := by decide +kernel
theorem d15_5 : decode Bc15 5 = .ok (.aload_n 2, 1) := by decide +kernel
theorem d15_6 : decode Bc15 6 = .ok (.aload_n 0, 1) := by decide +kernel
theorem d15_7 : decode Bc15 7 = .ok (.getfield 15, 3) := by decide +kernel
theorem d15_10 : decode Bc15 10 = .ok (.iload_n 1, 1) := by decide +kernel
theorem d15_11 : decode Bc15 11 = .ok (.aload_n 0, 1) := by decide +kernel
theorem d15_12 : decode Bc15 12 = .ok (.getfield 22, 3) := by decide +kernel
theorem d15_15 : decode Bc15 15 = .ok (.invokevirtual 399, 3) := by decide +kernel
theorem pd___BIB_V : parseMethodDescriptor "([BIB)V" = some ⟨[(.array .byte), .int, .byte], none⟩ := by decide +kernel
theorem d15_18 : decode Bc15 18 = .ok (.return_, 1) := by decide +kernel
theorem pn_15 : plainName "java/lang/AbstractStringBuilder" = true := by first | (simp [plainName, overriddenIn]; done) | decide +kernel
abbrev Bc11 := jdk_68_method_22_code
theorem d11_0 : decode Bc11 0 = .ok (.aload_n 1, 1) := by decide +kernel
theorem d11_1 : decode Bc11 1 = .ok (.ifnonnull 8, 3) := by decide +kernel
theorem d11_9 : decode Bc11 9 = .ok (.aload_n 1, 1) := by decide +kernel
theorem d11_10 : decode Bc11 10 = .ok (.invokevirtual 32, 3) := by decide +kernel
theorem d11_13 : decode Bc11 13 = .ok (.istore_n 2, 1) := by decide +kernel
theorem d11_14 : decode Bc11 14 = .ok (.aload_n 0, 1) := by decide +kernel
theorem d11_15 : decode Bc11 15 = .ok (.aload_n 0, 1) := by decide +kernel
theorem d11_16 : decode Bc11 16 = .ok (.getfield 79, 3) := by decide +kernel
theorem d11_19 : decode Bc11 19 = .ok (.iload_n 2, 1) := by decide +kernel
theorem d11_20 : decode Bc11 20 = .ok (.iadd, 1) := by decide +kernel
theorem d11_21 : decode Bc11 21 = .ok (.invokevirtual 100, 3) := by decide +kernel
theorem d11_24 : decode Bc11 24 = .ok (.aload_n 0, 1) := by decide +kernel
theorem d11_25 : decode Bc11 25 = .ok (.aload_n 0, 1) := by decide +kernel
theorem d11_26 : decode Bc11 26 = .ok (.getfield 79, 3) := by decide +kernel
theorem d11_29 : decode Bc11 29 = .ok (.aload_n 1, 1) := by decide +kernel
theorem d11_30 : decode Bc11 30 = .ok (.invokevirtual 208, 3) := by decide +kernel
theorem pd__ILjava_lang_String__V : parseMethodDescriptor "(ILjava/lang/String;)V" = some ⟨[.int, (.object "java/lang/String")], none⟩ := by decide +kernel
theorem d11_33 : decode Bc11 33 = .ok (.aload_n 0, 1) := by decide +kernel
theorem d11_34 : decode Bc11 34 = .ok (.dup, 1) := by decide +kernel
theorem d11_35 : decode Bc11 35 = .ok (.getfield 79, 3) := by decide +kernel
theorem d11_38 : decode Bc11 38 = .ok (.iload_n 2, 1) := by decide +kernel
theorem d11_39 : decode Bc11 39 = .ok (.iadd, 1) := by decide +kernel
theorem d11_40 : decode Bc11 40 = .ok (.putfield 79, 3) := by decide +kernel
theorem d11_43 : decode Bc11 43 = .ok (.aload_n 0, 1) := by decide +kernel
theorem d11_44 : decode Bc11 44 = .ok (.areturn, 1) := by decide +kernel
theorem pn_11 : plainName "java/lang/AbstractStringBuilder" = true := by first | (simp [plainName, overriddenIn]; done) | decide +kernel
abbrev Bc10 := jdk_67_method_7_code
theorem d10_0 : decode Bc10 0 = .ok (.aload_n 0, 1) := by decide +kernel
theorem d10_1 : decode Bc10 1 = .ok (.aload_n 1, 1) := by decide +kernel
theorem d10_2 : decode Bc10 2 = .ok (.invokespecial 29, 3) := by decide +kernel
theorem pd__Ljava_lang_String__Ljava_lang_AbstractStringBuilder_ : parseMethodDescriptor "(Ljava/lang/String;)Ljava/lang/AbstractStringBuilder;" = some ⟨[(.object "java/lang/String")], some (.object "java/lang/AbstractStringBuilder")⟩ := by decide +kernel
theorem d10_5 : decode Bc10 5 = .ok (.pop, 1) := by decide +kernel
theorem d10_6 : decode Bc10 6 = .ok (.aload_n 0, 1) := by decide +kernel
theorem d10_7 : decode Bc10 7 = .ok (.areturn, 1) := by decide +kernel
theorem pn_10 : plainName "java/lang/StringBuilder" = true := by first | (simp [plainName, overriddenIn]; done) | decide +kernel
abbrev Bc25 := jdk_42_method_150_code
theorem d25_0 : decode Bc25 0 = .ok (.aload_n 0, 1) := by decide +kernel
theorem d25_1 : decode Bc25 1 = .ok (.invokespecial 1, 3) := by decide +kernel
theorem d25_4 : decode Bc25 4 = .ok (.aload_n 1, 1) := by decide +kernel
theorem d25_5 : decode Bc25 5 = .ok (.invokevirtual 552, 3) := by decide +kernel
theorem pd____B : parseMethodDescriptor "()[B" = some ⟨[], some (.array .byte)⟩ := by decide +kernel
theorem d25_8 : decode Bc25 8 = .ok (.astore_n 3, 1) := by decide +kernel
theorem d25_9 : decode Bc25 9 = .ok (.aload_n 1, 1) := by decide +kernel
theorem d25_10 : decode Bc25 10 = .ok (.invokevirtual 549, 3) := by decide +kernel
theorem d25_13 : decode Bc25 13 = .ok (.istore 4, 2) := by decide +kernel
theorem d25_15 : decode Bc25 15 = .ok (.aload_n 1, 1) := by decide +kernel
theorem d25_16 : decode Bc25 16 = .ok (.invokevirtual 1047, 3) := by decide +kernel
theorem d25_19 : decode Bc25 19 = .ok (.ifCond .eq 22, 3) := by decide +kernel
theorem d25_22 : decode Bc25 22 = .ok (.aload_n 0, 1) := by decide +kernel
theorem d25_23 : decode Bc25 23 = .ok (.iconst 0, 1) := by decide +kernel
theorem d25_24 : decode Bc25 24 = .ok (.putfield 15, 3) := by decide +kernel
theorem d25_27 : decode Bc25 27 = .ok (.aload_n 0, 1) := by decide +kernel
theorem d25_28 : decode Bc25 28 = .ok (.aload_n 3, 1) := by decide +kernel
theorem d25_29 : decode Bc25 29 = .ok (.iconst 0, 1) := by decide +kernel
theorem d25_30 : decode Bc25 30 = .ok (.iload 4, 2) := by decide +kernel
theorem d25_32 : decode Bc25 32 = .ok (.invokestatic 54, 3) := by decide +kernel
theorem d25_35 : decode Bc25 35 = .ok (.putfield 9, 3) := by decide +kernel
theorem d25_38 : decode Bc25 38 = .ok (.goto 59, 3) := by decide +kernel
theorem d25_97 : decode Bc25 97 = .ok (.return_, 1) := by decide +kernel
theorem pn_25 : plainName "java/lang/String" = true := by first | (simp [plainName, overriddenIn]; done) | decide +kernel
abbrev Bc24 := jdk_42_method_53_code
theorem d24_0 : decode Bc24 0 = .ok (.aload_n 0, 1) := by decide +kernel
theorem d24_1 : decode Bc24 1 = .ok (.aload_n 1, 1) := by decide +kernel
theorem d24_2 : decode Bc24 2 = .ok (.aconst_null, 1) := by decide +kernel
theorem d24_3 : decode Bc24 3 = .ok (.invokespecial 489, 3) := by decide +kernel
theorem pd__Ljava_lang_AbstractStringBuilder_Ljava_lang_Void__V : parseMethodDescriptor "(Ljava/lang/AbstractStringBuilder;Ljava/lang/Void;)V" = some ⟨[(.object "java/lang/AbstractStringBuilder"), (.object "java/lang/Void")], none⟩ := by decide +kernel
theorem d24_6 : decode Bc24 6 = .ok (.return_, 1) := by decide +kernel
theorem pn_24 : plainName "java/lang/String" = true := by first | (simp [plainName, overriddenIn]; done) | decide +kernel
abbrev Bc23 := jdk_67_method_42_code
theorem d23_0 : decode Bc23 0 = .ok (.new 18, 3) := by decide +kernel
theorem d23_3 : decode Bc23 3 = .ok (.dup, 1) := by decide +kernel
theorem d23_4 : decode Bc23 4 = .ok (.aload_n 0, 1) := by decide +kernel
theorem d23_5 : decode Bc23 5 = .ok (.invokespecial 137, 3) := by decide +kernel
theorem pd__Ljava_lang_StringBuilder__V : parseMethodDescriptor "(Ljava/lang/StringBuilder;)V" = some ⟨[(.object "java/lang/StringBuilder")], none⟩ := by decide +kernel
theorem d23_8 : decode Bc23 8 = .ok (.areturn, 1) := by decide +kernel
theorem pn_23 : plainName "java/lang/StringBuilder" = true := by first | (simp [plainName, overriddenIn]; done) | decide +kernel
abbrev Bc5 := jdk_52_method_21_code
theorem d5_0 : decode Bc5 0 = .ok (.iconst 0, 1) := by decide +kernel
theorem d5_1 : decode Bc5 1 = .ok (.istore 5, 2) := by decide +kernel
theorem d5_3 : decode Bc5 3 = .ok (.iload 5, 2) := by decide +kernel
theorem d5_5 : decode Bc5 5 = .ok (.iload 4, 2) := by decide +kernel
theorem d5_7 : decode Bc5 7 = .ok (.if_icmp .ge 37, 3) := by decide +kernel
theorem d5_10 : decode Bc5 10 = .ok (.aload_n 0, 1) := by decide +kernel
theorem d5_11 : decode Bc5 11 = .ok (.iload_n 1, 1) := by decide +kernel
theorem d5_12 : decode Bc5 12 = .ok (.caload, 1) := by decide +kernel
theorem d5_13 : decode Bc5 13 = .ok (.istore 6, 2) := by decide +kernel
theorem d5_15 : decode Bc5 15 = .ok (.iload 6, 2) := by decide +kernel
theorem d5_17 : decode Bc5 17 = .ok (.sipush 255, 3) := by decide +kernel
theorem d5_20 : decode Bc5 20 = .ok (.if_icmp .le 6, 3) := by decide +kernel
theorem d5_26 : decode Bc5 26 = .ok (.aload_n 2, 1) := by decide +kernel
theorem d5_27 : decode Bc5 27 = .ok (.iload_n 3, 1) := by decide +kernel
theorem d5_28 : decode Bc5 28 = .ok (.iload 6, 2) := by decide +kernel
theorem d5_30 : decode Bc5 30 = .ok (.i2b, 1) := by decide +kernel
theorem d5_31 : decode Bc5 31 = .ok (.bastore, 1) := by decide +kernel
theorem d5_32 : decode Bc5 32 = .ok (.iinc 1 1, 3) := by decide +kernel
theorem d5_35 : decode Bc5 35 = .ok (.iinc 3 1, 3) := by decide +kernel
theorem d5_38 : decode Bc5 38 = .ok (.iinc 5 1, 3) := by decide +kernel
theorem d5_41 : decode Bc5 41 = .ok (.goto (-38), 3) := by decide +kernel
theorem d5_44 : decode Bc5 44 = .ok (.iload 4, 2) := by decide +kernel
theorem d5_46 : decode Bc5 46 = .ok (.ireturn, 1) := by decide +kernel
theorem pn_5 : plainName "java/lang/StringUTF16" = true := by first | (simp [plainName, overriddenIn]; done) | decide +kernel
abbrev Bc4 := jdk_52_method_16_code
theorem d4_0 : decode Bc4 0 = .ok (.iload_n 2, 1) := by decide +kernel
theorem d4_1 : decode Bc4 1 = .ok (.newarray .byte, 2) := by decide +kernel
theorem d4_3 : decode Bc4 3 = .ok (.astore_n 3, 1) := by decide +kernel
theorem d4_4 : decode Bc4 4 = .ok (.aload_n 0, 1) := by decide +kernel
theorem d4_5 : decode Bc4 5 = .ok (.iload_n 1, 1) := by decide +kernel
theorem d4_6 : decode Bc4 6 = .ok (.aload_n 3, 1) := by decide +kernel
theorem d4_7 : decode Bc4 7 = .ok (.iconst 0, 1) := by decide +kernel
theorem d4_8 : decode Bc4 8 = .ok (.iload_n 2, 1) := by decide +kernel
theorem d4_9 : decode Bc4 9 = .ok (.invokestatic 115, 3) := by decide +kernel
theorem pd___CI_BII_I : parseMethodDescriptor "([CI[BII)I" = some ⟨[(.array .char), .int, (.array .byte), .int, .int], some .int⟩ := by decide +kernel
theorem d4_12 : decode Bc4 12 = .ok (.istore 4, 2) := by decide +kernel
theorem d4_14 : decode Bc4 14 = .ok (.iload 4, 2) := by decide +kernel
theorem d4_16 : decode Bc4 16 = .ok (.iload_n 2, 1) := by decide +kernel
theorem d4_17 : decode Bc4 17 = .ok (.if_icmp .eq 40, 3) := by decide +kernel
theorem d4_57 : decode Bc4 57 = .ok (.aload_n 3, 1) := by decide +kernel
theorem d4_58 : decode Bc4 58 = .ok (.areturn, 1) := by decide +kernel
theorem pn_4 : plainName "java/lang/StringUTF16" = true := by first | (simp [plainName, overriddenIn]; done) | decide +kernel
abbrev Bc6 := jdk_52_method_15_code
theorem d6_0 : decode Bc6 0 = .ok (.iload_n 1, 1) := by decide +kernel
theorem d6_1 : decode Bc6 1 = .ok (.aload_n 0, 1) := by decide +kernel
theorem d6_2 : decode Bc6 2 = .ok (.arraylength, 1) := by decide +kernel
theorem d6_3 : decode Bc6 3 = .ok (.isub, 1) := by decide +kernel
theorem d6_4 : decode Bc6 4 = .ok (.bipush 31, 2) := by decide +kernel
theorem d6_6 : decode Bc6 6 = .ok (.iushr, 1) := by decide +kernel
theorem d6_7 : decode Bc6 7 = .ok (.i2b, 1) := by decide +kernel
theorem d6_8 : decode Bc6 8 = .ok (.ireturn, 1) := by decide +kernel
theorem pn_6 : plainName "java/lang/StringUTF16" = true := by first | (simp [plainName, overriddenIn]; done) | decide +kernel
abbrev Bc2 := jdk_42_method_149_code
theorem d2_0 : decode Bc2 0 = .ok (.aload_n 0, 1) := by decide +kernel
theorem d2_1 : decode Bc2 1 = .ok (.invokespecial 1, 3) := by decide +kernel
theorem d2_4 : decode Bc2 4 = .ok (.iload_n 3, 1) := by decide +kernel
theorem d2_5 : decode Bc2 5 = .ok (.ifCond .ne 22, 3) := by decide +kernel
theorem d2_27 : decode Bc2 27 = .ok (.getstatic 38, 3) := by decide +kernel
theorem d2_30 : decode Bc2 30 = .ok (.ifCond .eq 28, 3) := by decide +kernel
theorem d2_33 : decode Bc2 33 = .ok (.aload_n 1, 1) := by decide +kernel
theorem d2_34 : decode Bc2 34 = .ok (.iload_n 2, 1) := by decide +kernel
theorem d2_35 : decode Bc2 35 = .ok (.iload_n 3, 1) := by decide +kernel
theorem d2_36 : decode Bc2 36 = .ok (.invokestatic 177, 3) := by decide +kernel
theorem pd___CII__B : parseMethodDescriptor "([CII)[B" = some ⟨[(.array .char), .int, .int], some (.array .byte)⟩ := by decide +kernel
theorem d2_39 : decode Bc2 39 = .ok (.astore 5, 2) := by decide +kernel
theorem d2_41 : decode Bc2 41 = .ok (.aload_n 0, 1) := by decide +kernel
theorem d2_42 : decode Bc2 42 = .ok (.aload 5, 2) := by decide +kernel
theorem d2_44 : decode Bc2 44 = .ok (.iload_n 3, 1) := by decide +kernel
theorem d2_45 : decode Bc2 45 = .ok (.invokestatic 47, 3) := by decide +kernel
theorem pd___BI_B : parseMethodDescriptor "([BI)B" = some ⟨[(.array .byte), .int], some .byte⟩ := by decide +kernel
theorem d2_48 : decode Bc2 48 = .ok (.putfield 15, 3) := by decide +kernel
theorem d2_51 : decode Bc2 51 = .ok (.aload_n 0, 1) := by decide +kernel
theorem d2_52 : decode Bc2 52 = .ok (.aload 5, 2) := by decide +kernel
theorem d2_54 : decode Bc2 54 = .ok (.putfield 9, 3) := by decide +kernel
theorem d2_57 : decode Bc2 57 = .ok (.return_, 1) := by decide +kernel
theorem pn_2 : plainName "java/lang/String" = true := by first | (simp [plainName, overriddenIn]; done) | decide +kernel
abbrev Bc1 := jdk_42_method_3_code
theorem d1_0 : decode Bc1 0 = .ok (.aload_n 0, 1) := by decide +kernel
theorem d1_1 : decode Bc1 1 = .ok (.aload_n 1, 1) := by decide +kernel
theorem d1_2 : decode Bc1 2 = .ok (.iconst 0, 1) := by decide +kernel
theorem d1_3 : decode Bc1 3 = .ok (.aload_n 1, 1) := by decide +kernel
theorem d1_4 : decode Bc1 4 = .ok (.arraylength, 1) := by decide +kernel
theorem d1_5 : decode Bc1 5 = .ok (.aconst_null, 1) := by decide +kernel
theorem d1_6 : decode Bc1 6 = .ok (.invokespecial 27, 3) := by decide +kernel
theorem pd___CIILjava_lang_Void__V : parseMethodDescriptor "([CIILjava/lang/Void;)V" = some ⟨[(.array .char), .int, .int, (.object "java/lang/Void")], none⟩ := by decide +kernel
theorem d1_9 : decode Bc1 9 = .ok (.return_, 1) := by decide +kernel
theorem pn_1 : plainName "java/lang/String" = true := by first | (simp [plainName, overriddenIn]; done) | decide +kernel
theorem d2_8 : decode Bc2 8 = .ok (.aload_n 0, 1) := by decide +kernel
theorem d2_9 : decode Bc2 9 = .ok (.ldc 7, 2) := by decide +kernel
theorem d2_11 : decode Bc2 11 = .ok (.getfield 9, 3) := by decide +kernel
theorem d2_14 : decode Bc2 14 = .ok (.putfield 9, 3) := by decide +kernel
theorem d2_17 : decode Bc2 17 = .ok (.aload_n 0, 1) := by decide +kernel
theorem d2_18 : decode Bc2 18 = .ok (.ldc 7, 2) := by decide +kernel
theorem d2_20 : decode Bc2 20 = .ok (.getfield 15, 3) := by decide +kernel
theorem d2_23 : decode Bc2 23 = .ok (.putfield 15, 3) := by decide +kernel
theorem d2_26 : decode Bc2 26 = .ok (.return_, 1) := by decide +kernel
abbrev Bc7 := prog_92_method_16_code
theorem d7_0 : decode Bc7 0 = .ok (.aload_n 1, 1) := by decide +kernel
theorem d7_1 : decode Bc7 1 = .ok (.astore_n 2, 1) := by decide +kernel
theorem d7_2 : decode Bc7 2 = .ok (.aload_n 0, 1) := by decide +kernel
theorem d7_3 : decode Bc7 3 = .ok (.getfield 72, 3) := by decide +kernel
theorem d7_6 : decode Bc7 6 = .ok (.ifnull 40, 3) := by decide +kernel
theorem d7_46 : decode Bc7 46 = .ok (.aload_n 2, 1) := by decide +kernel
theorem d7_47 : decode Bc7 47 = .ok (.areturn, 1) := by decide +kernel
theorem pn_7 : plainName "com/example/librowmap/librowmap/sql/Dialect" = true := by first | (simp [plainName, overriddenIn]; done) | decide +kernel
theorem d7_9 : decode Bc7 9 = .ok (.new 129, 3) := by decide +kernel
theorem d7_12 : decode Bc7 12 = .ok (.dup, 1) := by decide +kernel
theorem d7_13 : decode Bc7 13 = .ok (.invokespecial 131, 3) := by decide +kernel
theorem pd___V : parseMethodDescriptor "()V" = some ⟨[], none⟩ := by decide +kernel
theorem d7_16 : decode Bc7 16 = .ok (.ldc 235, 2) := by decide +kernel
theorem d7_18 : decode Bc7 18 = .ok (.invokevirtual 136, 3) := by decide +kernel
theorem pd__Ljava_lang_String__Ljava_lang_StringBuilder_ : parseMethodDescriptor "(Ljava/lang/String;)Ljava/lang/StringBuilder;" = some ⟨[(.object "java/lang/String")], some (.object "java/lang/StringBuilder")⟩ := by decide +kernel
theorem d7_21 : decode Bc7 21 = .ok (.aload_n 1, 1) := by decide +kernel
theorem d7_22 : decode Bc7 22 = .ok (.invokevirtual 136, 3) := by decide +kernel
theorem d7_25 : decode Bc7 25 = .ok (.ldc 237, 2) := by decide +kernel
theorem d7_27 : decode Bc7 27 = .ok (.invokevirtual 136, 3) := by decide +kernel
theorem d7_30 : decode Bc7 30 = .ok (.aload_n 0, 1) := by decide +kernel
theorem d7_31 : decode Bc7 31 = .ok (.getfield 72, 3) := by decide +kernel
theorem d7_34 : decode Bc7 34 = .ok (.invokevirtual 136, 3) := by decide +kernel
theorem d7_37 : decode Bc7 37 = .ok (.ldc 239, 2) := by decide +kernel
theorem d7_39 : decode Bc7 39 = .ok (.invokevirtual 136, 3) := by decide +kernel
theorem d7_42 : decode Bc7 42 = .ok (.invokevirtual 147, 3) := by decide +kernel
theorem pd___Ljava_lang_String_ : parseMethodDescriptor "()Ljava/lang/String;" = some ⟨[], some (.object "java/lang/String")⟩ := by decide +kernel
theorem d7_45 : decode Bc7 45 = .ok (.astore_n 2, 1) := by decide +kernel
abbrev Bc33 := method_2_code
theorem d33_0 : decode Bc33 0 = .ok (.iload_n 1, 1) := by decide +kernel
theorem d33_1 : decode Bc33 1 = .ok (.ifCond .lt 24, 3) := by decide +kernel
theorem d33_4 : decode Bc33 4 = .ok (.iload_n 1, 1) := by decide +kernel
theorem d33_5 : decode Bc33 5 = .ok (.aload_n 0, 1) := by decide +kernel
theorem d33_6 : decode Bc33 6 = .ok (.invokevirtual 7, 3) := by decide +kernel
theorem d33_9 : decode Bc33 9 = .ok (.if_icmp .ge 16, 3) := by decide +kernel
theorem d33_12 : decode Bc33 12 = .ok (.aload_n 0, 1) := by decide +kernel
theorem d33_13 : decode Bc33 13 = .ok (.iload_n 1, 1) := by decide +kernel
theorem d33_14 : decode Bc33 14 = .ok (.invokevirtual 13, 3) := by decide +kernel
theorem pd__I_C : parseMethodDescriptor "(I)C" = some ⟨[.int], some .char⟩ := by decide +kernel
theorem d33_17 : decode Bc33 17 = .ok (.iload_n 2, 1) := by decide +kernel
theorem d33_18 : decode Bc33 18 = .ok (.if_icmp .ne 7, 3) := by decide +kernel
theorem d33_21 : decode Bc33 21 = .ok (.iconst 1, 1) := by decide +kernel
theorem d33_22 : decode Bc33 22 = .ok (.goto 4, 3) := by decide +kernel
theorem d33_26 : decode Bc33 26 = .ok (.ireturn, 1) := by decide +kernel
theorem pn_33 : plainName "com/example/librowmap/librowmap/sql/DialectTextOfPinLaw" = true := by first | (simp [plainName, overriddenIn]; done) | decide +kernel
abbrev Bc39 := jdk_42_method_66_code
theorem d39_0 : decode Bc39 0 = .ok (.aload_n 0, 1) := by decide +kernel
theorem d39_1 : decode Bc39 1 = .ok (.aload_n 1, 1) := by decide +kernel
theorem d39_2 : decode Bc39 2 = .ok (.if_acmp .ne 5, 3) := by decide +kernel
theorem d39_5 : decode Bc39 5 = .ok (.iconst 1, 1) := by decide +kernel
theorem d39_6 : decode Bc39 6 = .ok (.ireturn, 1) := by decide +kernel
theorem pn_39 : plainName "java/lang/String" = true := by first | (simp [plainName, overriddenIn]; done) | decide +kernel
theorem pd___C_V : parseMethodDescriptor "([C)V" = some ⟨[(.array .char)], none⟩ := by decide +kernel
theorem pd__Ljava_lang_String__Ljava_lang_String_ : parseMethodDescriptor "(Ljava/lang/String;)Ljava/lang/String;" = some ⟨[(.object "java/lang/String")], some (.object "java/lang/String")⟩ := by decide +kernel
theorem pd__Ljava_lang_String_IC_Z : parseMethodDescriptor "(Ljava/lang/String;IC)Z" = some ⟨[(.object "java/lang/String"), .int, .char], some .boolean⟩ := by decide +kernel
theorem pd__Ljava_lang_Object__Z : parseMethodDescriptor "(Ljava/lang/Object;)Z" = some ⟨[(.object "java/lang/Object")], some .boolean⟩ := by decide +kernel
theorem pn_0 : plainName "com/example/librowmap/librowmap/sql/DialectTextOfPinLaw" = true := by first | (simp [plainName, overriddenIn]; done) | decide +kernel
theorem ef_rmCo (m : MethodId) (x0 : Addr) : entryFrame m #[(.ref x0)] 1 = mkF m 0 #[rv x0] [] := by first | (simp [entryFrame, mkF, argsToLocals, Value.category]; done) | rfl
set_option maxRecDepth 65536 in
set_option maxHeartbeats 40000000 in
theorem rmCo (l : Launch) (Z : State) (a0 : Array Value) (hw : ∀ d ∈ tables_1, d.before a0 Z = true) (ws : List Jvm.Cond) (u0 : Addr) (zC : Int32) (h0 : Heap) (n0 : Nat) (Z0 : n0 ≤ h0.size) (P_F_u0_String_coder : Fld Z h0 u0 "java/lang/String" "coder" "B" (.int (0 : Int32))) (P_S_String_COMPACT_STRINGS : Sta Z h0 "java/lang/String" "COMPACT_STRINGS" "Z" (.int zC)) (hz : ¬ (zC = (0 : Int32))) :
    own_MF l own_y0 (Jvm.Cond.code own_y0 jdk_42_method_152_code 1 (some .byte)) ws ({ frames := 0, cells := 0, slots := 0, locals := 0 } : Room) #[(.ref u0)] Z h0 (own_QP (some (.int (0 : Int32))) h0 n0) := by
  refine MetFree.of_bodySF (plainFor_of_name pn_13) hisR ?_
  intro p e s m args below meth c s₁ Bd hml0 hP hK
  obtain ⟨rfl, hZ, hh⟩ := hP
  have hx := Bd.exec
  have hby := Bd.bytes
  have hml : c.maxLocals = 1 := hml0
  have hown : s.vm.findClass "java/lang/String" = some m.cls := findClass_of_methodNamed Bd.named
  have hnm := (name_of_methodNamed Bd.named Bd.method).1
  have X0 : Stand p l e ({ frames := 0, cells := 0, slots := 0, locals := 0 } : Room) s m #[(.ref u0)] below meth c s₁ [] 0 0 := Stand.of_body Bd
  have e0 : s₁.heap = h0 := by rw [← hh, Bd.state]; rfl
  have N0 := Fr.nil n0
  have pre0 : ∀ t, Steps p.tables e below (s₁.setTop (mkF m 0 #[rv u0] [])) t → Steps p.tables e below (s₁.setTop (entryFrame m #[(.ref u0)] 1)) t := fun t k => castTop (ef_rmCo m u0) k
  obtain ⟨T1, X1, e1, st1⟩ := getS2 X0 hx hZ hown (host := "") (Or.inl (own_g hw 26 rfl)) Via.refl e0 P_S_String_COMPACT_STRINGS (g := (mkF m 0 #[rv u0] [])) rfl (hb hby d13_0)
  obtain ⟨T2, X2, e2, st2⟩ := getF X1 hx hZ hown (host := "") (Or.inl (own_g hw 38 rfl)) Via.refl e1 P_F_u0_String_coder (g := (mkF m 7 #[rv u0] [(.ref u0)])) rfl rfl (hb hby d13_7)
  obtain ⟨fs, hr, hrun, hended, hW, hsame⟩ := X2.leave (v := some (.int (0 : Int32))) (fun h => by rw [Bd.returns] at h; cases h)
  refine ⟨_, _, pre0 _ ?_, hrun, hended, _, _, rfl, ?_, ⟨_, rfl⟩, hW, hsame.mono (by decide) (by decide)⟩
  · refine st1 _ ?_
    refine XS.ifNo X1.here hx rfl (hb hby d13_3) rfl ((if0 _ _).trans (feq hz).1) ?_
    refine XS.aloadN X1.here hx rfl (hb hby d13_6) rfl rfl ?_
    refine st2 _ ?_
    refine XS.goto X2.here hx rfl (pc0 := 10) (pc' := 14) rfl (hb hby d13_10) (by decide) (by decide) ?_
    show Steps _ _ _ (T2.setTop (mkF m 14 #[rv u0] [(.int (0 : Int32))])) _
    exact retN X2 hx (t := .byte) Bd.returns (by simp) (hb hby d13_14) hr
  · show own_QP (some (.int (0 : Int32))) h0 n0 _ T2.heap _
    rw [e2]
    exact ⟨rfl, N0, rfl⟩

theorem ef_rmLa (m : MethodId) (x0 : Addr) : entryFrame m #[(.ref x0)] 1 = mkF m 0 #[rv x0] [] := by first | (simp [entryFrame, mkF, argsToLocals, Value.category]; done) | rfl
set_option maxRecDepth 65536 in
set_option maxHeartbeats 40000000 in
theorem rmLa (l : Launch) (Z : State) (a0 : Array Value) (hw : ∀ d ∈ tables_1, d.before a0 Z = true) (ws : List Jvm.Cond) (u0 : Addr) (zC : Int32) (h0 : Heap) (n0 : Nat) (Z0 : n0 ≤ h0.size) (P_F_u0_String_coder : Fld Z h0 u0 "java/lang/String" "coder" "B" (.int (0 : Int32))) (P_S_String_COMPACT_STRINGS : Sta Z h0 "java/lang/String" "COMPACT_STRINGS" "Z" (.int zC)) (hz : ¬ (zC = (0 : Int32))) :
    own_MF l own_y1 (Jvm.Cond.code own_y1 jdk_42_method_154_code 1 (some .boolean)) ws ({ frames := 0, cells := 0, slots := 0, locals := 0 } : Room) #[(.ref u0)] Z h0 (own_QP (some (.int (1 : Int32))) h0 n0) := by
  refine MetFree.of_bodySF (plainFor_of_name pn_35) hisR ?_
  intro p e s m args below meth c s₁ Bd hml0 hP hK
  obtain ⟨rfl, hZ, hh⟩ := hP
  have hx := Bd.exec
  have hby := Bd.bytes
  have hml : c.maxLocals = 1 := hml0
  have hown : s.vm.findClass "java/lang/String" = some m.cls := findClass_of_methodNamed Bd.named
  have hnm := (name_of_methodNamed Bd.named Bd.method).1
  have X0 : Stand p l e ({ frames := 0, cells := 0, slots := 0, locals := 0 } : Room) s m #[(.ref u0)] below meth c s₁ [] 0 0 := Stand.of_body Bd
  have e0 : s₁.heap = h0 := by rw [← hh, Bd.state]; rfl
  have N0 := Fr.nil n0
  have pre0 : ∀ t, Steps p.tables e below (s₁.setTop (mkF m 0 #[rv u0] [])) t → Steps p.tables e below (s₁.setTop (entryFrame m #[(.ref u0)] 1)) t := fun t k => castTop (ef_rmLa m u0) k
  obtain ⟨T1, X1, e1, st1⟩ := getS2 X0 hx hZ hown (host := "") (Or.inl (own_g hw 26 rfl)) Via.refl e0 P_S_String_COMPACT_STRINGS (g := (mkF m 0 #[rv u0] [])) rfl (hb hby d35_0)
  obtain ⟨T2, X2, e2, st2⟩ := getF X1 hx hZ hown (host := "") (Or.inl (own_g hw 38 rfl)) Via.refl e1 P_F_u0_String_coder (g := (mkF m 7 #[rv u0] [(.ref u0)])) rfl rfl (hb hby d35_7)
  obtain ⟨fs, hr, hrun, hended, hW, hsame⟩ := X2.leave (v := some (.int (1 : Int32))) (fun h => by rw [Bd.returns] at h; cases h)
  refine ⟨_, _, pre0 _ ?_, hrun, hended, _, _, rfl, ?_, ⟨_, rfl⟩, hW, hsame.mono (by decide) (by decide)⟩
  · refine st1 _ ?_
    refine XS.ifNo X1.here hx rfl (hb hby d35_3) rfl ((if0 _ _).trans (feq hz).1) ?_
    refine XS.aloadN X1.here hx rfl (hb hby d35_6) rfl rfl ?_
    refine st2 _ ?_
    refine XS.ifNo X2.here hx rfl (hb hby d35_10) rfl ((if0 _ _).trans (teq (by decide : (0 : Int32) = (0 : Int32))).2) ?_
    refine XS.iconst X2.here hx rfl (hb hby d35_13) ?_
    refine XS.goto X2.here hx rfl (pc0 := 14) (pc' := 18) rfl (hb hby d35_14) (by decide) (by decide) ?_
    show Steps _ _ _ (T2.setTop (mkF m 18 #[rv u0] [(.int (1 : Int32))])) _
    exact retN X2 hx (t := .boolean) Bd.returns (by simp) (hb hby d35_18) hr
  · show own_QP (some (.int (1 : Int32))) h0 n0 _ T2.heap _
    rw [e2]
    exact ⟨rfl, N0, rfl⟩

theorem ef_rmLe (m : MethodId) (x0 : Addr) : entryFrame m #[(.ref x0)] 1 = mkF m 0 #[rv x0] [] := by first | (simp [entryFrame, mkF, argsToLocals, Value.category]; done) | rfl
set_option maxRecDepth 65536 in
set_option maxHeartbeats 40000000 in
theorem rmLe (l : Launch) (Z : State) (a0 : Array Value) (hw : ∀ d ∈ tables_1, d.before a0 Z = true) (ws : List Jvm.Cond) (u0 : Addr) (tv : Addr) (kt : ClassId) (z : Int32) (vs : List Value) (zC : Int32) (h0 : Heap) (n0 : Nat) (Z0 : n0 ≤ h0.size) (P_E_u0 : Exa Z h0 u0 "java/lang/String") (P_F_u0_String_value : Fld Z h0 u0 "java/lang/String" "value" "[B" (.ref tv)) (P_F_u0_String_coder : Fld Z h0 u0 "java/lang/String" "coder" "B" (.int (0 : Int32))) (P_G_tv : Arv Z h0 tv kt .byte z vs (.int 0)) (P_S_String_COMPACT_STRINGS : Sta Z h0 "java/lang/String" "COMPACT_STRINGS" "Z" (.int zC)) (hz : ¬ (zC = (0 : Int32))) :
    own_MF l own_y2 (Jvm.Cond.code own_y2 jdk_42_method_54_code 1 (some .int)) ws ({ frames := 1, cells := 0, slots := 0, locals := 13 } : Room) #[(.ref u0)] Z h0 (own_QP (some (.int z)) h0 n0) := by
  refine MetFree.of_bodySF (plainFor_of_name pn_12) hisR ?_
  intro p e s m args below meth c s₁ Bd hml0 hP hK
  obtain ⟨rfl, hZ, hh⟩ := hP
  have hx := Bd.exec
  have hby := Bd.bytes
  have hml : c.maxLocals = 1 := hml0
  have hown : s.vm.findClass "java/lang/String" = some m.cls := findClass_of_methodNamed Bd.named
  have hnm := (name_of_methodNamed Bd.named Bd.method).1
  have X0 : Stand p l e ({ frames := 1, cells := 0, slots := 0, locals := 13 } : Room) s m #[(.ref u0)] below meth c s₁ [] 0 0 := Stand.of_body Bd
  have e0 : s₁.heap = h0 := by rw [← hh, Bd.state]; rfl
  have N0 := Fr.nil n0
  have pre0 : ∀ t, Steps p.tables e below (s₁.setTop (mkF m 0 #[rv u0] [])) t → Steps p.tables e below (s₁.setTop (entryFrame m #[(.ref u0)] 1)) t := fun t k => castTop (ef_rmLe m u0) k
  obtain ⟨T1, X1, e1, st1⟩ := getF X0 hx hZ hown (host := "") (Or.inl (own_g hw 40 rfl)) Via.refl e0 P_F_u0_String_value (g := (mkF m 1 #[rv u0] [(.ref u0)])) rfl rfl (hb hby d12_1)
  obtain ⟨cl2, Ar2, qq2, S2, N2_, H2, G2⟩ := id P_G_tv
  obtain ⟨cq4, kq4, q4a, q4b, q4c⟩ := isOf hZ e1 P_E_u0
  obtain ⟨_, _, ⟨T3, L3, k3, n3⟩, -, X3, ⟨Lc3, hQ3, l3, y3, z3⟩, st3⟩ := X1.virtualBack hx (y := own_y0) (z := own_y0) hown (mvT hZ (own_g hw 85 rfl)) (mvT hZ (own_g hw 86 rfl)) (notFace_of_selects (args := #[]) (mvT hZ (own_g hw 88 rfl))) (mvT hZ (own_g hw 88 rfl)) (mvT hZ (own_g hw 87 rfl)) (by decide) (backOf (W := 1) (rmCo l Z a0 hw [] u0 zC h0 n0 Z0 P_F_u0_String_coder P_S_String_COMPACT_STRINGS hz) hZ (own_g hw 89 rfl) (own_g hw 14 rfl) (by decide) (by decide)) q4a q4c (g := (mkF m 6 #[rv u0] [(.ref u0), (.int z)])) rfl (by rw [hml]; rfl) (Steps.refl _) (argsL := []) (rest := [(.int z)]) (lenOf pd___B rfl) rfl (by show 2 * 0 + _ ≤ _; exact Nat.le_of_eq rfl) (hb hby d12_6) (fun _ _ => ⟨rfl, e1, (by decide : 0 + 0 ≤ _), (by decide : 0 + 0 ≤ _)⟩)
  dsimp only [Pt.U, Pt.locs, Pt.cells, Pt.slots] at X3 l3 y3 z3 st3 hQ3
  subst l3 y3 z3
  obtain ⟨rfl, N3q, e3⟩ := hQ3
  have N3 := Fr.app N0 N3q
  obtain ⟨fs, hr, hrun, hended, hW, hsame⟩ := X3.leave (v := some (.int z)) (fun h => by rw [Bd.returns] at h; cases h)
  refine ⟨_, _, pre0 _ ?_, hrun, hended, _, _, rfl, ?_, ⟨_, rfl⟩, hW, hsame.mono (by decide) (by decide)⟩
  · refine XS.aloadN X0.here hx rfl (hb hby d12_0) rfl rfl ?_
    refine st1 _ ?_
    refine X1.arraylength hx (by rw [e1]; exact Ar2.1) (State.isArrayOf_alike hZ.alike Ar2.2.1) (g := (mkF m 4 #[rv u0] [(.ref tv)])) rfl rfl (hb hby d12_4) _ ?_
    rw [len_of S2 N2_]
    refine XS.aloadN X1.here hx rfl (hb hby d12_5) rfl rfl ?_
    show Steps _ _ _ (T1.setTop (mkF m 6 #[rv u0] [(.ref u0), (.int z)])) _
    refine st3.trans ?_
    refine XS.ishr X3.here hx rfl (hb hby d12_9) rfl ?_
    show Steps _ _ _ (T3.setTop (mkF m 10 #[rv u0] [(.int (z >>> ((0 : Int32) &&& 31)))])) _
    rw [own_shr0 z]
    show Steps _ _ _ (T3.setTop (mkF m 10 #[rv u0] [(.int z)])) _
    exact retI X3 hx Bd.returns (hb hby d12_10) hr
  · show own_QP (some (.int z)) h0 n0 _ T3.heap _
    rw [e3]
    exact ⟨rfl, N3, rfl⟩

theorem ef_rmMx (m : MethodId) (x0 : Int32) (x1 : Int32) : entryFrame m #[(.int x0), (.int x1)] 2 = mkF m 0 #[iv x0, iv x1] [] := by first | (simp [entryFrame, mkF, argsToLocals, Value.category]; done) | rfl
set_option maxRecDepth 65536 in
set_option maxHeartbeats 40000000 in
theorem rmMx (l : Launch) (Z : State) (a0 : Array Value) (hw : ∀ d ∈ tables_1, d.before a0 Z = true) (ws : List Jvm.Cond) (p0 : Int32) (p1 : Int32) (h0 : Heap) (n0 : Nat) (Z0 : n0 ≤ h0.size) :
    own_MF l own_y3 (Jvm.Cond.code own_y3 jdk_29_method_65_code 2 (some .int)) ws ({ frames := 0, cells := 0, slots := 0, locals := 0 } : Room) #[(.int p0), (.int p1)] Z h0 (own_QP (some (.int (own_max p0 p1))) h0 n0) := by
  refine MetFree.of_bodySF (Jvm.Free.JP.mathPlain rfl (by decide +kernel)) hisR ?_
  intro p e s m args below meth c s₁ Bd hml0 hP hK
  obtain ⟨rfl, hZ, hh⟩ := hP
  have hx := Bd.exec
  have hby := Bd.bytes
  have hml : c.maxLocals = 2 := hml0
  have hown : s.vm.findClass "java/lang/Math" = some m.cls := findClass_of_methodNamed Bd.named
  have hnm := (name_of_methodNamed Bd.named Bd.method).1
  have X0 : Stand p l e ({ frames := 0, cells := 0, slots := 0, locals := 0 } : Room) s m #[(.int p0), (.int p1)] below meth c s₁ [] 0 0 := Stand.of_body Bd
  have e0 : s₁.heap = h0 := by rw [← hh, Bd.state]; rfl
  have N0 := Fr.nil n0
  have pre0 : ∀ t, Steps p.tables e below (s₁.setTop (mkF m 0 #[iv p0, iv p1] [])) t → Steps p.tables e below (s₁.setTop (entryFrame m #[(.int p0), (.int p1)] 2)) t := fun t k => castTop (ef_rmMx m p0 p1) k
  have pre2 : ∀ t, Steps p.tables e below (s₁.setTop (mkF m 2 #[iv p0, iv p1] [(.int p1), (.int p0)])) t → Steps p.tables e below (s₁.setTop (entryFrame m #[(.int p0), (.int p1)] 2)) t := fun t kt => pre0 t (by
   refine XS.iloadN X0.here hx rfl (hb hby d20_0) rfl ?_
   refine XS.iloadN X0.here hx rfl (hb hby d20_1) rfl ?_
   exact kt)
  by_cases hc2_1 : p0 < p1
  · obtain ⟨fs, hr, hrun, hended, hW, hsame⟩ := X0.leave (v := some (.int p1)) (fun h => by rw [Bd.returns] at h; cases h)
    refine ⟨_, _, pre2 _ ?_, hrun, hended, _, _, rfl, ?_, ⟨_, rfl⟩, hW, hsame.mono (by decide) (by decide)⟩
    · refine XS.icmpYes X0.here hx rfl (pc0 := 2) (pc' := 9) rfl (hb hby d20_2) rfl (tlt hc2_1).1 (by decide) (by decide) ?_
      refine XS.iloadN X0.here hx rfl (hb hby d20_9) rfl ?_
      show Steps _ _ _ (s₁.setTop (mkF m 10 #[iv p0, iv p1] [(.int p1)])) _
      exact retI X0 hx Bd.returns (hb hby d20_10) hr
    · show own_QP (some (.int (own_max p0 p1))) h0 n0 _ s₁.heap _
      rw [e0]
      exact ⟨(congrArg (fun q => some (Value.int q)) (by unfold own_max; rw [if_pos hc2_1])), N0, rfl⟩
  · obtain ⟨fs, hr, hrun, hended, hW, hsame⟩ := X0.leave (v := some (.int p0)) (fun h => by rw [Bd.returns] at h; cases h)
    refine ⟨_, _, pre2 _ ?_, hrun, hended, _, _, rfl, ?_, ⟨_, rfl⟩, hW, hsame.mono (by decide) (by decide)⟩
    · refine XS.icmpNo X0.here hx rfl (hb hby d20_2) rfl (flt hc2_1).1 ?_
      refine XS.iloadN X0.here hx rfl (hb hby d20_5) rfl ?_
      refine XS.goto X0.here hx rfl (pc0 := 6) (pc' := 10) rfl (hb hby d20_6) (by decide) (by decide) ?_
      show Steps _ _ _ (s₁.setTop (mkF m 10 #[iv p0, iv p1] [(.int p0)])) _
      exact retI X0 hx Bd.returns (hb hby d20_10) hr
    · show own_QP (some (.int (own_max p0 p1))) h0 n0 _ s₁.heap _
      rw [e0]
      exact ⟨(congrArg (fun q => some (Value.int q)) (by unfold own_max; rw [if_neg hc2_1])), N0, rfl⟩

theorem ef_rmMi (m : MethodId) (x0 : Int32) (x1 : Int32) : entryFrame m #[(.int x0), (.int x1)] 2 = mkF m 0 #[iv x0, iv x1] [] := by first | (simp [entryFrame, mkF, argsToLocals, Value.category]; done) | rfl
set_option maxRecDepth 65536 in
set_option maxHeartbeats 40000000 in
theorem rmMi (l : Launch) (Z : State) (a0 : Array Value) (hw : ∀ d ∈ tables_1, d.before a0 Z = true) (ws : List Jvm.Cond) (p0 : Int32) (p1 : Int32) (h0 : Heap) (n0 : Nat) (Z0 : n0 ≤ h0.size) :
    own_MF l own_y4 (Jvm.Cond.code own_y4 jdk_29_method_69_code 2 (some .int)) ws ({ frames := 0, cells := 0, slots := 0, locals := 0 } : Room) #[(.int p0), (.int p1)] Z h0 (own_QP (some (.int (own_min p0 p1))) h0 n0) := by
  refine MetFree.of_bodySF (Jvm.Free.JP.mathPlain rfl (by decide +kernel)) hisR ?_
  intro p e s m args below meth c s₁ Bd hml0 hP hK
  obtain ⟨rfl, hZ, hh⟩ := hP
  have hx := Bd.exec
  have hby := Bd.bytes
  have hml : c.maxLocals = 2 := hml0
  have hown : s.vm.findClass "java/lang/Math" = some m.cls := findClass_of_methodNamed Bd.named
  have hnm := (name_of_methodNamed Bd.named Bd.method).1
  have X0 : Stand p l e ({ frames := 0, cells := 0, slots := 0, locals := 0 } : Room) s m #[(.int p0), (.int p1)] below meth c s₁ [] 0 0 := Stand.of_body Bd
  have e0 : s₁.heap = h0 := by rw [← hh, Bd.state]; rfl
  have N0 := Fr.nil n0
  have pre0 : ∀ t, Steps p.tables e below (s₁.setTop (mkF m 0 #[iv p0, iv p1] [])) t → Steps p.tables e below (s₁.setTop (entryFrame m #[(.int p0), (.int p1)] 2)) t := fun t k => castTop (ef_rmMi m p0 p1) k
  have pre2 : ∀ t, Steps p.tables e below (s₁.setTop (mkF m 2 #[iv p0, iv p1] [(.int p1), (.int p0)])) t → Steps p.tables e below (s₁.setTop (entryFrame m #[(.int p0), (.int p1)] 2)) t := fun t kt => pre0 t (by
   refine XS.iloadN X0.here hx rfl (hb hby d22_0) rfl ?_
   refine XS.iloadN X0.here hx rfl (hb hby d22_1) rfl ?_
   exact kt)
  by_cases hc2_1 : p1 < p0
  · obtain ⟨fs, hr, hrun, hended, hW, hsame⟩ := X0.leave (v := some (.int p1)) (fun h => by rw [Bd.returns] at h; cases h)
    refine ⟨_, _, pre2 _ ?_, hrun, hended, _, _, rfl, ?_, ⟨_, rfl⟩, hW, hsame.mono (by decide) (by decide)⟩
    · refine XS.icmpYes X0.here hx rfl (pc0 := 2) (pc' := 9) rfl (hb hby d22_2) rfl (tlt hc2_1).2.2.1 (by decide) (by decide) ?_
      refine XS.iloadN X0.here hx rfl (hb hby d22_9) rfl ?_
      show Steps _ _ _ (s₁.setTop (mkF m 10 #[iv p0, iv p1] [(.int p1)])) _
      exact retI X0 hx Bd.returns (hb hby d22_10) hr
    · show own_QP (some (.int (own_min p0 p1))) h0 n0 _ s₁.heap _
      rw [e0]
      exact ⟨(congrArg (fun q => some (Value.int q)) (by unfold own_min; rw [if_pos hc2_1])), N0, rfl⟩
  · obtain ⟨fs, hr, hrun, hended, hW, hsame⟩ := X0.leave (v := some (.int p0)) (fun h => by rw [Bd.returns] at h; cases h)
    refine ⟨_, _, pre2 _ ?_, hrun, hended, _, _, rfl, ?_, ⟨_, rfl⟩, hW, hsame.mono (by decide) (by decide)⟩
    · refine XS.icmpNo X0.here hx rfl (hb hby d22_2) rfl (flt hc2_1).2.2.1 ?_
      refine XS.iloadN X0.here hx rfl (hb hby d22_5) rfl ?_
      refine XS.goto X0.here hx rfl (pc0 := 6) (pc' := 10) rfl (hb hby d22_6) (by decide) (by decide) ?_
      show Steps _ _ _ (s₁.setTop (mkF m 10 #[iv p0, iv p1] [(.int p0)])) _
      exact retI X0 hx Bd.returns (hb hby d22_10) hr
    · show own_QP (some (.int (own_min p0 p1))) h0 n0 _ s₁.heap _
      rw [e0]
      exact ⟨(congrArg (fun q => some (Value.int q)) (by unfold own_min; rw [if_neg hc2_1])), N0, rfl⟩

theorem ef_rmCk (m : MethodId) (x0 : Int32) (x1 : Int32) : entryFrame m #[(.int x0), (.int x1)] 2 = mkF m 0 #[iv x0, iv x1] [] := by first | (simp [entryFrame, mkF, argsToLocals, Value.category]; done) | rfl
set_option maxRecDepth 65536 in
set_option maxHeartbeats 40000000 in
theorem rmCk (l : Launch) (Z : State) (a0 : Array Value) (hw : ∀ d ∈ tables_1, d.before a0 Z = true) (ws : List Jvm.Cond) (p0 : Int32) (p1 : Int32) (h0 : Heap) (n0 : Nat) (Z0 : n0 ≤ h0.size) (wl : ¬ p1 < p0) :
    own_MF l own_y5 (Jvm.Cond.code own_y5 jdk_65_method_131_code 2 none) ws ({ frames := 0, cells := 0, slots := 0, locals := 0 } : Room) #[(.int p0), (.int p1)] Z h0 (own_QP none h0 n0) := by
  refine MetFree.of_bodySF (plainFor_of_name pn_32) hisR ?_
  intro p e s m args below meth c s₁ Bd hml0 hP hK
  obtain ⟨rfl, hZ, hh⟩ := hP
  have hx := Bd.exec
  have hby := Bd.bytes
  have hml : c.maxLocals = 2 := hml0
  have hown : s.vm.findClass "java/util/Arrays" = some m.cls := findClass_of_methodNamed Bd.named
  have hnm := (name_of_methodNamed Bd.named Bd.method).1
  have X0 : Stand p l e ({ frames := 0, cells := 0, slots := 0, locals := 0 } : Room) s m #[(.int p0), (.int p1)] below meth c s₁ [] 0 0 := Stand.of_body Bd
  have e0 : s₁.heap = h0 := by rw [← hh, Bd.state]; rfl
  have N0 := Fr.nil n0
  have pre0 : ∀ t, Steps p.tables e below (s₁.setTop (mkF m 0 #[iv p0, iv p1] [])) t → Steps p.tables e below (s₁.setTop (entryFrame m #[(.int p0), (.int p1)] 2)) t := fun t k => castTop (ef_rmCk m p0 p1) k
  obtain ⟨fs, hr, hrun, hended, hW, hsame⟩ := X0.leave (v := none) (fun _ => rfl)
  refine ⟨_, _, pre0 _ ?_, hrun, hended, _, _, rfl, ?_, ⟨_, rfl⟩, hW, hsame.mono (by decide) (by decide)⟩
  · refine XS.iloadN X0.here hx rfl (hb hby d32_0) rfl ?_
    refine XS.iloadN X0.here hx rfl (hb hby d32_1) rfl ?_
    refine XS.icmpYes X0.here hx rfl (pc0 := 2) (pc' := 37) rfl (hb hby d32_2) rfl (flt wl).2.1 (by decide) (by decide) ?_
    show Steps _ _ _ (s₁.setTop (mkF m 37 #[iv p0, iv p1] [])) _
    exact X0.returnOut hx Bd.returns (hb hby d32_37) hr
  · show own_QP none h0 n0 _ s₁.heap _
    rw [e0]
    exact ⟨rfl, N0, rfl⟩

theorem ef_rmPI0 (m : MethodId) (x0 : Int32) (x1 : Int32) (x2 : Addr) : entryFrame m #[(.int x0), (.int x1), (.ref x2)] 3 = mkF m 0 #[iv x0, iv x1, rv x2] [] := by first | (simp [entryFrame, mkF, argsToLocals, Value.category]; done) | rfl
set_option maxRecDepth 65536 in
set_option maxHeartbeats 40000000 in
theorem rmPI0 (l : Launch) (Z : State) (a0 : Array Value) (hw : ∀ d ∈ tables_1, d.before a0 Z = true) (ws : List Jvm.Cond) (p0 : Int32) (p1 : Int32) (u2 : Addr) (h0 : Heap) (n0 : Nat) (Z0 : n0 ≤ h0.size) (hi0 : ¬ p0 < 0) (hi1 : p0 < p1) :
    own_MF l own_y6 (Jvm.Cond.code own_y6 jdk_41_method_11_code 3 (some .int)) ws ({ frames := 0, cells := 0, slots := 0, locals := 0 } : Room) #[(.int p0), (.int p1), (.ref u2)] Z h0 (own_QP (some (.int p0)) h0 n0) := by
  refine MetFree.of_bodySF (plainFor_of_name pn_38) hisR ?_
  intro p e s m args below meth c s₁ Bd hml0 hP hK
  obtain ⟨rfl, hZ, hh⟩ := hP
  have hx := Bd.exec
  have hby := Bd.bytes
  have hml : c.maxLocals = 3 := hml0
  have hown : s.vm.findClass "jdk/internal/util/Preconditions" = some m.cls := findClass_of_methodNamed Bd.named
  have hnm := (name_of_methodNamed Bd.named Bd.method).1
  have X0 : Stand p l e ({ frames := 0, cells := 0, slots := 0, locals := 0 } : Room) s m #[(.int p0), (.int p1), (.ref u2)] below meth c s₁ [] 0 0 := Stand.of_body Bd
  have e0 : s₁.heap = h0 := by rw [← hh, Bd.state]; rfl
  have N0 := Fr.nil n0
  have pre0 : ∀ t, Steps p.tables e below (s₁.setTop (mkF m 0 #[iv p0, iv p1, rv u2] [])) t → Steps p.tables e below (s₁.setTop (entryFrame m #[(.int p0), (.int p1), (.ref u2)] 3)) t := fun t k => castTop (ef_rmPI0 m p0 p1 u2) k
  obtain ⟨fs, hr, hrun, hended, hW, hsame⟩ := X0.leave (v := some (.int p0)) (fun h => by rw [Bd.returns] at h; cases h)
  refine ⟨_, _, pre0 _ ?_, hrun, hended, _, _, rfl, ?_, ⟨_, rfl⟩, hW, hsame.mono (by decide) (by decide)⟩
  · refine XS.iloadN X0.here hx rfl (hb hby d38_0) rfl ?_
    refine XS.ifNo X0.here hx rfl (hb hby d38_1) rfl ((if0 _ _).trans (flt hi0).1) ?_
    refine XS.iloadN X0.here hx rfl (hb hby d38_4) rfl ?_
    refine XS.iloadN X0.here hx rfl (hb hby d38_5) rfl ?_
    refine XS.icmpYes X0.here hx rfl (pc0 := 6) (pc' := 16) rfl (hb hby d38_6) rfl (tlt hi1).1 (by decide) (by decide) ?_
    refine XS.iloadN X0.here hx rfl (hb hby d38_16) rfl ?_
    show Steps _ _ _ (s₁.setTop (mkF m 17 #[iv p0, iv p1, rv u2] [(.int p0)])) _
    exact retI X0 hx Bd.returns (hb hby d38_17) hr
  · show own_QP (some (.int p0)) h0 n0 _ s₁.heap _
    rw [e0]
    exact ⟨rfl, N0, rfl⟩

theorem ef_rmPI1 (m : MethodId) (x0 : Int32) (x1 : Int32) : entryFrame m #[(.int x0), (.int x1), .null] 3 = mkF m 0 #[iv x0, iv x1, .val .null] [] := by first | (simp [entryFrame, mkF, argsToLocals, Value.category]; done) | rfl
set_option maxRecDepth 65536 in
set_option maxHeartbeats 40000000 in
theorem rmPI1 (l : Launch) (Z : State) (a0 : Array Value) (hw : ∀ d ∈ tables_1, d.before a0 Z = true) (ws : List Jvm.Cond) (p0 : Int32) (p1 : Int32) (h0 : Heap) (n0 : Nat) (Z0 : n0 ≤ h0.size) (hi0 : ¬ p0 < 0) (hi1 : p0 < p1) :
    own_MF l own_y6 (Jvm.Cond.code own_y6 jdk_41_method_11_code 3 (some .int)) ws ({ frames := 0, cells := 0, slots := 0, locals := 0 } : Room) #[(.int p0), (.int p1), .null] Z h0 (own_QP (some (.int p0)) h0 n0) := by
  refine MetFree.of_bodySF (plainFor_of_name pn_38) hisR ?_
  intro p e s m args below meth c s₁ Bd hml0 hP hK
  obtain ⟨rfl, hZ, hh⟩ := hP
  have hx := Bd.exec
  have hby := Bd.bytes
  have hml : c.maxLocals = 3 := hml0
  have hown : s.vm.findClass "jdk/internal/util/Preconditions" = some m.cls := findClass_of_methodNamed Bd.named
  have hnm := (name_of_methodNamed Bd.named Bd.method).1
  have X0 : Stand p l e ({ frames := 0, cells := 0, slots := 0, locals := 0 } : Room) s m #[(.int p0), (.int p1), .null] below meth c s₁ [] 0 0 := Stand.of_body Bd
  have e0 : s₁.heap = h0 := by rw [← hh, Bd.state]; rfl
  have N0 := Fr.nil n0
  have pre0 : ∀ t, Steps p.tables e below (s₁.setTop (mkF m 0 #[iv p0, iv p1, .val .null] [])) t → Steps p.tables e below (s₁.setTop (entryFrame m #[(.int p0), (.int p1), .null] 3)) t := fun t k => castTop (ef_rmPI1 m p0 p1) k
  obtain ⟨fs, hr, hrun, hended, hW, hsame⟩ := X0.leave (v := some (.int p0)) (fun h => by rw [Bd.returns] at h; cases h)
  refine ⟨_, _, pre0 _ ?_, hrun, hended, _, _, rfl, ?_, ⟨_, rfl⟩, hW, hsame.mono (by decide) (by decide)⟩
  · refine XS.iloadN X0.here hx rfl (hb hby d38_0) rfl ?_
    refine XS.ifNo X0.here hx rfl (hb hby d38_1) rfl ((if0 _ _).trans (flt hi0).1) ?_
    refine XS.iloadN X0.here hx rfl (hb hby d38_4) rfl ?_
    refine XS.iloadN X0.here hx rfl (hb hby d38_5) rfl ?_
    refine XS.icmpYes X0.here hx rfl (pc0 := 6) (pc' := 16) rfl (hb hby d38_6) rfl (tlt hi1).1 (by decide) (by decide) ?_
    refine XS.iloadN X0.here hx rfl (hb hby d38_16) rfl ?_
    show Steps _ _ _ (s₁.setTop (mkF m 17 #[iv p0, iv p1, .val .null] [(.int p0)])) _
    exact retI X0 hx Bd.returns (hb hby d38_17) hr
  · show own_QP (some (.int p0)) h0 n0 _ s₁.heap _
    rw [e0]
    exact ⟨rfl, N0, rfl⟩

theorem ef_rmSI (m : MethodId) (x0 : Int32) (x1 : Int32) : entryFrame m #[(.int x0), (.int x1)] 2 = mkF m 0 #[iv x0, iv x1] [] := by first | (simp [entryFrame, mkF, argsToLocals, Value.category]; done) | rfl
set_option maxRecDepth 65536 in
set_option maxHeartbeats 40000000 in
theorem rmSI (l : Launch) (Z : State) (a0 : Array Value) (hw : ∀ d ∈ tables_1, d.before a0 Z = true) (ws : List Jvm.Cond) (p0 : Int32) (p1 : Int32) (fv : Value) (h0 : Heap) (n0 : Nat) (Z0 : n0 ≤ h0.size) (P_S_Preconditions_SIOOBE_FORMATTER : Sta Z h0 "jdk/internal/util/Preconditions" "SIOOBE_FORMATTER" "Ljava/util/function/BiFunction;" fv) (hfv : (fv = .null ∨ ∃ a, fv = .ref a)) (hi0 : ¬ p0 < 0) (hi1 : p0 < p1) :
    own_MF l own_y7 (Jvm.Cond.code own_y7 jdk_42_method_155_code 2 none) ws ({ frames := 1, cells := 0, slots := 0, locals := 14 } : Room) #[(.int p0), (.int p1)] Z h0 (own_QP none h0 n0) := by
  refine MetFree.of_bodySF (plainFor_of_name pn_37) hisR ?_
  intro p e s m args below meth c s₁ Bd hml0 hP hK
  obtain ⟨rfl, hZ, hh⟩ := hP
  have hx := Bd.exec
  have hby := Bd.bytes
  have hml : c.maxLocals = 2 := hml0
  have hown : s.vm.findClass "java/lang/String" = some m.cls := findClass_of_methodNamed Bd.named
  have hnm := (name_of_methodNamed Bd.named Bd.method).1
  have X0 : Stand p l e ({ frames := 1, cells := 0, slots := 0, locals := 14 } : Room) s m #[(.int p0), (.int p1)] below meth c s₁ [] 0 0 := Stand.of_body Bd
  have e0 : s₁.heap = h0 := by rw [← hh, Bd.state]; rfl
  have N0 := Fr.nil n0
  have pre0 : ∀ t, Steps p.tables e below (s₁.setTop (mkF m 0 #[iv p0, iv p1] [])) t → Steps p.tables e below (s₁.setTop (entryFrame m #[(.int p0), (.int p1)] 2)) t := fun t k => castTop (ef_rmSI m p0 p1) k
  have pre1 : ∀ t, Steps p.tables e below (s₁.setTop (mkF m 2 #[iv p0, iv p1] [(.int p1), (.int p0)])) t → Steps p.tables e below (s₁.setTop (entryFrame m #[(.int p0), (.int p1)] 2)) t := fun t kt => pre0 t (by
   refine XS.iloadN X0.here hx rfl (hb hby d37_0) rfl ?_
   refine XS.iloadN X0.here hx rfl (hb hby d37_1) rfl ?_
   exact kt)
  rcases hfv with rfl | ⟨fa_, rfl⟩
  · obtain ⟨T2, X2, e2, st2⟩ := getS2 X0 hx hZ hown (host := "") (Or.inl (own_g hw 203 rfl)) Via.refl e0 P_S_Preconditions_SIOOBE_FORMATTER (g := (mkF m 2 #[iv p0, iv p1] [(.int p1), (.int p0)])) rfl (hb hby d37_2)
    obtain ⟨_, _, ⟨T3, L3, k3, n3⟩, -, X3, ⟨Lc3, hQ3, l3, y3, z3⟩, st3⟩ := Jvm.LawKit.callS X2 hx (y := own_y6) hown (mvT hZ (own_g hw 205 rfl)) (mvT hZ (own_g hw 206 rfl)) (mvT hZ (own_g hw 204 rfl)) (mvT hZ (own_g hw 207 rfl)) (by decide) (backOf (W := 0) (rmPI1 l Z a0 hw [] p0 p1 h0 n0 Z0 hi0 hi1) hZ (own_g hw 207 rfl) (own_g hw 204 rfl) (by decide) (by decide)) (g := (mkF m 5 #[iv p0, iv p1] [.null, (.int p1), (.int p0)])) rfl (by rw [hml]; rfl) (argsL := [(.int p0), (.int p1), .null]) (rest := []) (lenOf pd__IILjava_util_function_BiFunction__I rfl) rfl (by show 2 * 0 + _ ≤ _; exact Nat.le_of_eq rfl) (hb hby d37_5) (fun _ _ => ⟨rfl, e2, (by decide : 0 + 0 ≤ _), (by decide : 0 + 0 ≤ _)⟩)
    dsimp only [Pt.U, Pt.locs, Pt.cells, Pt.slots] at X3 l3 y3 z3 st3 hQ3
    subst l3 y3 z3
    obtain ⟨rfl, N3q, e3⟩ := hQ3
    have N3 := Fr.app N0 N3q
    obtain ⟨fs, hr, hrun, hended, hW, hsame⟩ := X3.leave (v := none) (fun _ => rfl)
    refine ⟨_, _, pre1 _ ?_, hrun, hended, _, _, rfl, ?_, ⟨_, rfl⟩, hW, hsame.mono (by decide) (by decide)⟩
    · refine st2 _ ?_
      show Steps _ _ _ (T2.setTop (mkF m 5 #[iv p0, iv p1] [.null, (.int p1), (.int p0)])) _
      refine st3 _ ?_
      refine XS.pop X3.here hx rfl (hb hby d37_8) rfl rfl ?_
      show Steps _ _ _ (T3.setTop (mkF m 9 #[iv p0, iv p1] [])) _
      exact X3.returnOut hx Bd.returns (hb hby d37_9) hr
    · show own_QP none h0 n0 _ T3.heap _
      rw [e3]
      exact ⟨rfl, N3, rfl⟩
  · obtain ⟨T4, X4, e4, st4⟩ := getS2 X0 hx hZ hown (host := "") (Or.inl (own_g hw 203 rfl)) Via.refl e0 P_S_Preconditions_SIOOBE_FORMATTER (g := (mkF m 2 #[iv p0, iv p1] [(.int p1), (.int p0)])) rfl (hb hby d37_2)
    obtain ⟨_, _, ⟨T5, L5, k5, n5⟩, -, X5, ⟨Lc5, hQ5, l5, y5, z5⟩, st5⟩ := Jvm.LawKit.callS X4 hx (y := own_y6) hown (mvT hZ (own_g hw 205 rfl)) (mvT hZ (own_g hw 206 rfl)) (mvT hZ (own_g hw 204 rfl)) (mvT hZ (own_g hw 207 rfl)) (by decide) (backOf (W := 0) (rmPI0 l Z a0 hw [] p0 p1 fa_ h0 n0 Z0 hi0 hi1) hZ (own_g hw 207 rfl) (own_g hw 204 rfl) (by decide) (by decide)) (g := (mkF m 5 #[iv p0, iv p1] [(.ref fa_), (.int p1), (.int p0)])) rfl (by rw [hml]; rfl) (argsL := [(.int p0), (.int p1), (.ref fa_)]) (rest := []) (lenOf pd__IILjava_util_function_BiFunction__I rfl) rfl (by show 2 * 0 + _ ≤ _; exact Nat.le_of_eq rfl) (hb hby d37_5) (fun _ _ => ⟨rfl, e4, (by decide : 0 + 0 ≤ _), (by decide : 0 + 0 ≤ _)⟩)
    dsimp only [Pt.U, Pt.locs, Pt.cells, Pt.slots] at X5 l5 y5 z5 st5 hQ5
    subst l5 y5 z5
    obtain ⟨rfl, N5q, e5⟩ := hQ5
    have N5 := Fr.app N0 N5q
    obtain ⟨fs, hr, hrun, hended, hW, hsame⟩ := X5.leave (v := none) (fun _ => rfl)
    refine ⟨_, _, pre1 _ ?_, hrun, hended, _, _, rfl, ?_, ⟨_, rfl⟩, hW, hsame.mono (by decide) (by decide)⟩
    · refine st4 _ ?_
      show Steps _ _ _ (T4.setTop (mkF m 5 #[iv p0, iv p1] [(.ref fa_), (.int p1), (.int p0)])) _
      refine st5 _ ?_
      refine XS.pop X5.here hx rfl (hb hby d37_8) rfl rfl ?_
      show Steps _ _ _ (T5.setTop (mkF m 9 #[iv p0, iv p1] [])) _
      exact X5.returnOut hx Bd.returns (hb hby d37_9) hr
    · show own_QP none h0 n0 _ T5.heap _
      rw [e5]
      exact ⟨rfl, N5, rfl⟩

theorem ef_rmCL (m : MethodId) (x0 : Addr) (x1 : Int32) : entryFrame m #[(.ref x0), (.int x1)] 2 = mkF m 0 #[rv x0, iv x1] [] := by first | (simp [entryFrame, mkF, argsToLocals, Value.category]; done) | rfl
set_option maxRecDepth 65536 in
set_option maxHeartbeats 40000000 in
theorem rmCL (l : Launch) (Z : State) (a0 : Array Value) (hw : ∀ d ∈ tables_1, d.before a0 Z = true) (ws : List Jvm.Cond) (u0 : Addr) (p1 : Int32) (kt : ClassId) (z : Int32) (vs : List Value) (fv : Value) (h0 : Heap) (n0 : Nat) (Z0 : n0 ≤ h0.size) (P_G_u0 : Arv Z h0 u0 kt .byte z vs (.int 0)) (P_S_Preconditions_SIOOBE_FORMATTER : Sta Z h0 "jdk/internal/util/Preconditions" "SIOOBE_FORMATTER" "Ljava/util/function/BiFunction;" fv) (hfv : (fv = .null ∨ ∃ a, fv = .ref a)) (hi0 : ¬ p1 < 0) (hi1 : p1 < z) :
    own_MF l own_y8 (Jvm.Cond.code own_y8 jdk_43_method_2_code 2 (some .char)) ws ({ frames := 2, cells := 0, slots := 0, locals := 27 } : Room) #[(.ref u0), (.int p1)] Z h0 (own_QP (some (.int (own_ch (own_at vs p1)))) h0 n0) := by
  refine MetFree.of_bodySF (plainFor_of_name pn_36) hisR ?_
  intro p e s m args below meth c s₁ Bd hml0 hP hK
  obtain ⟨rfl, hZ, hh⟩ := hP
  have hx := Bd.exec
  have hby := Bd.bytes
  have hml : c.maxLocals = 2 := hml0
  have hown : s.vm.findClass "java/lang/StringLatin1" = some m.cls := findClass_of_methodNamed Bd.named
  have hnm := (name_of_methodNamed Bd.named Bd.method).1
  have X0 : Stand p l e ({ frames := 2, cells := 0, slots := 0, locals := 27 } : Room) s m #[(.ref u0), (.int p1)] below meth c s₁ [] 0 0 := Stand.of_body Bd
  have e0 : s₁.heap = h0 := by rw [← hh, Bd.state]; rfl
  have N0 := Fr.nil n0
  have pre0 : ∀ t, Steps p.tables e below (s₁.setTop (mkF m 0 #[rv u0, iv p1] [])) t → Steps p.tables e below (s₁.setTop (entryFrame m #[(.ref u0), (.int p1)] 2)) t := fun t k => castTop (ef_rmCL m u0 p1) k
  obtain ⟨cl1, Ar1, qq1, S1, N1_, H1, G1⟩ := id P_G_u0
  obtain ⟨_, _, ⟨T2, L2, k2, n2⟩, -, X2, ⟨Lc2, hQ2, l2, y2, z2⟩, st2⟩ := Jvm.LawKit.callS X0 hx (y := own_y7) hown (mvT hZ (own_g hw 200 rfl)) (mvT hZ (own_g hw 201 rfl)) (mvT hZ (own_g hw 14 rfl)) (mvT hZ (own_g hw 202 rfl)) (by decide) (backOf (W := 0) (rmSI l Z a0 hw [] p1 z fv h0 n0 Z0 P_S_Preconditions_SIOOBE_FORMATTER hfv hi0 hi1) hZ (own_g hw 202 rfl) (own_g hw 14 rfl) (by decide) (by decide)) (g := (mkF m 3 #[rv u0, iv p1] [(.int z), (.int p1)])) rfl (by rw [hml]; rfl) (argsL := [(.int p1), (.int z)]) (rest := []) (lenOf pd__II_V rfl) rfl (by show 2 * 0 + _ ≤ _; exact Nat.le_of_eq rfl) (hb hby d36_3) (fun _ _ => ⟨rfl, e0, (by decide : 0 + 0 ≤ _), (by decide : 0 + 0 ≤ _)⟩)
  dsimp only [Pt.U, Pt.locs, Pt.cells, Pt.slots] at X2 l2 y2 z2 st2 hQ2
  subst l2 y2 z2
  obtain ⟨rfl, N2q, e2⟩ := hQ2
  have N2 := Fr.app N0 N2q
  obtain ⟨cl3, Ar3, qq3, S3, N3_, H3, G3⟩ := id P_G_u0
  have hin3 : ¬ (p1 < 0 ∨ cl3.slots.size ≤ (p1).toNatClampNeg) := inb_of S3 ⟨hi0, hi1⟩
  have hat3 : cl3.slots[(p1).toNatClampNeg]? = some (.int (own_at vs p1)) := own_atv H3 G3 hin3
  obtain ⟨fs, hr, hrun, hended, hW, hsame⟩ := X2.leave (v := some (.int (nar .char (((own_at vs p1) &&& (255 : Int32)).toUInt32.toUInt16.toUInt32.toInt32)))) (fun h => by rw [Bd.returns] at h; cases h)
  refine ⟨_, _, pre0 _ ?_, hrun, hended, _, _, rfl, ?_, ⟨_, rfl⟩, hW, hsame.mono (by decide) (by decide)⟩
  · refine XS.iloadN X0.here hx rfl (hb hby d36_0) rfl ?_
    refine XS.aloadN X0.here hx rfl (hb hby d36_1) rfl rfl ?_
    refine X0.arraylength hx (by rw [e0]; exact Ar1.1) (State.isArrayOf_alike hZ.alike Ar1.2.1) (g := (mkF m 2 #[rv u0, iv p1] [(.ref u0), (.int p1)])) rfl rfl (hb hby d36_2) _ ?_
    rw [len_of S1 N1_]
    show Steps _ _ _ (s₁.setTop (mkF m 3 #[rv u0, iv p1] [(.int z), (.int p1)])) _
    refine st2 _ ?_
    refine XS.aloadN X2.here hx rfl (hb hby d36_6) rfl rfl ?_
    refine XS.iloadN X2.here hx rfl (hb hby d36_7) rfl ?_
    refine X2.baloadBytes hx (j := p1) (v := (.int (own_at vs p1))) (by rw [e2]; exact Ar3.1) (State.isArrayOf_alike hZ.alike Ar3.2.1) Ar3.2.2 hin3 hat3 (g := (mkF m 8 #[rv u0, iv p1] [(.int p1), (.ref u0)])) rfl rfl (hb hby d36_8) _ ?_
    refine XS.sipush X2.here hx rfl (hb hby d36_9) ?_
    refine XS.iand X2.here hx rfl (hb hby d36_12) rfl ?_
    refine XS.i2c X2.here hx rfl (hb hby d36_13) rfl ?_
    show Steps _ _ _ (T2.setTop (mkF m 14 #[rv u0, iv p1] [(.int (((own_at vs p1) &&& (255 : Int32)).toUInt32.toUInt16.toUInt32.toInt32))])) _
    exact retN X2 hx (t := .char) Bd.returns (by simp) (hb hby d36_14) hr
  · show own_QP (some (.int (own_ch (own_at vs p1)))) h0 n0 _ T2.heap _
    rw [e2]
    exact ⟨rfl, N2, rfl⟩

theorem ef_rmCA (m : MethodId) (x0 : Addr) (x1 : Int32) : entryFrame m #[(.ref x0), (.int x1)] 2 = mkF m 0 #[rv x0, iv x1] [] := by first | (simp [entryFrame, mkF, argsToLocals, Value.category]; done) | rfl
set_option maxRecDepth 65536 in
set_option maxHeartbeats 40000000 in
theorem rmCA (l : Launch) (Z : State) (a0 : Array Value) (hw : ∀ d ∈ tables_1, d.before a0 Z = true) (ws : List Jvm.Cond) (u0 : Addr) (p1 : Int32) (tv : Addr) (kt : ClassId) (z : Int32) (vs : List Value) (zC : Int32) (fv : Value) (h0 : Heap) (n0 : Nat) (Z0 : n0 ≤ h0.size) (P_E_u0 : Exa Z h0 u0 "java/lang/String") (P_F_u0_String_value : Fld Z h0 u0 "java/lang/String" "value" "[B" (.ref tv)) (P_F_u0_String_coder : Fld Z h0 u0 "java/lang/String" "coder" "B" (.int (0 : Int32))) (P_G_tv : Arv Z h0 tv kt .byte z vs (.int 0)) (P_S_String_COMPACT_STRINGS : Sta Z h0 "java/lang/String" "COMPACT_STRINGS" "Z" (.int zC)) (hz : ¬ (zC = (0 : Int32))) (P_S_Preconditions_SIOOBE_FORMATTER : Sta Z h0 "jdk/internal/util/Preconditions" "SIOOBE_FORMATTER" "Ljava/util/function/BiFunction;" fv) (hfv : (fv = .null ∨ ∃ a, fv = .ref a)) (hi0 : ¬ p1 < 0) (hi1 : p1 < z) :
    own_MF l own_y9 (Jvm.Cond.code own_y9 jdk_42_method_56_code 2 (some .char)) ws ({ frames := 3, cells := 0, slots := 0, locals := 40 } : Room) #[(.ref u0), (.int p1)] Z h0 (own_QP (some (.int (nar .char (own_ch (own_at vs p1))))) h0 n0) := by
  refine MetFree.of_bodySF (plainFor_of_name pn_34) hisR ?_
  intro p e s m args below meth c s₁ Bd hml0 hP hK
  obtain ⟨rfl, hZ, hh⟩ := hP
  have hx := Bd.exec
  have hby := Bd.bytes
  have hml : c.maxLocals = 2 := hml0
  have hown : s.vm.findClass "java/lang/String" = some m.cls := findClass_of_methodNamed Bd.named
  have hnm := (name_of_methodNamed Bd.named Bd.method).1
  have X0 : Stand p l e ({ frames := 3, cells := 0, slots := 0, locals := 40 } : Room) s m #[(.ref u0), (.int p1)] below meth c s₁ [] 0 0 := Stand.of_body Bd
  have e0 : s₁.heap = h0 := by rw [← hh, Bd.state]; rfl
  have N0 := Fr.nil n0
  have pre0 : ∀ t, Steps p.tables e below (s₁.setTop (mkF m 0 #[rv u0, iv p1] [])) t → Steps p.tables e below (s₁.setTop (entryFrame m #[(.ref u0), (.int p1)] 2)) t := fun t k => castTop (ef_rmCA m u0 p1) k
  obtain ⟨cq2, kq2, q2a, q2b, q2c⟩ := isOf hZ e0 P_E_u0
  obtain ⟨_, _, ⟨T1, L1, k1, n1⟩, -, X1, ⟨Lc1, hQ1, l1, y1, z1⟩, st1⟩ := X0.virtualBack hx (y := own_y1) (z := own_y1) hown (mvT hZ (own_g hw 191 rfl)) (mvT hZ (own_g hw 192 rfl)) (notFace_of_selects (args := #[]) (mvT hZ (own_g hw 194 rfl))) (mvT hZ (own_g hw 194 rfl)) (mvT hZ (own_g hw 193 rfl)) (by decide) (backOf (W := 0) (rmLa l Z a0 hw [] u0 zC h0 n0 Z0 P_F_u0_String_coder P_S_String_COMPACT_STRINGS hz) hZ (own_g hw 195 rfl) (own_g hw 14 rfl) (by decide) (by decide)) q2a q2c (g := (mkF m 1 #[rv u0, iv p1] [(.ref u0)])) rfl (by rw [hml]; rfl) (Steps.refl _) (argsL := []) (rest := []) (lenOf pd___Z rfl) rfl (by show 2 * 0 + _ ≤ _; exact Nat.le_of_eq rfl) (hb hby d34_1) (fun _ _ => ⟨rfl, e0, (by decide : 0 + 0 ≤ _), (by decide : 0 + 0 ≤ _)⟩)
  dsimp only [Pt.U, Pt.locs, Pt.cells, Pt.slots] at X1 l1 y1 z1 st1 hQ1
  subst l1 y1 z1
  obtain ⟨rfl, N1q, e1⟩ := hQ1
  have N1 := Fr.app N0 N1q
  obtain ⟨T3, X3, e3, st3⟩ := getF X1 hx hZ hown (host := "") (Or.inl (own_g hw 40 rfl)) Via.refl e1 P_F_u0_String_value (g := (mkF m 8 #[rv u0, iv p1] [(.ref u0)])) rfl rfl (hb hby d34_8)
  obtain ⟨_, _, ⟨T4, L4, k4, n4⟩, -, X4, ⟨Lc4, hQ4, l4, y4, z4⟩, st4⟩ := Jvm.LawKit.callS X3 hx (y := own_y8) hown (mvT hZ (own_g hw 196 rfl)) (mvT hZ (own_g hw 197 rfl)) (mvT hZ (own_g hw 198 rfl)) (mvT hZ (own_g hw 199 rfl)) (by decide) (backOf (W := 0) (rmCL l Z a0 hw [] tv p1 kt z vs fv h0 n0 Z0 P_G_tv P_S_Preconditions_SIOOBE_FORMATTER hfv hi0 hi1) hZ (own_g hw 199 rfl) (own_g hw 198 rfl) (by decide) (by decide)) (g := (mkF m 12 #[rv u0, iv p1] [(.int p1), (.ref tv)])) rfl (by rw [hml]; rfl) (argsL := [(.ref tv), (.int p1)]) (rest := []) (lenOf pd___BI_C rfl) rfl (by show 2 * 0 + _ ≤ _; exact Nat.le_of_eq rfl) (hb hby d34_12) (fun _ _ => ⟨rfl, e3, (by decide : 0 + 0 ≤ _), (by decide : 0 + 0 ≤ _)⟩)
  dsimp only [Pt.U, Pt.locs, Pt.cells, Pt.slots] at X4 l4 y4 z4 st4 hQ4
  subst l4 y4 z4
  obtain ⟨rfl, N4q, e4⟩ := hQ4
  have N4 := Fr.app N1 N4q
  obtain ⟨fs, hr, hrun, hended, hW, hsame⟩ := X4.leave (v := some (.int (nar .char (own_ch (own_at vs p1))))) (fun h => by rw [Bd.returns] at h; cases h)
  refine ⟨_, _, pre0 _ ?_, hrun, hended, _, _, rfl, ?_, ⟨_, rfl⟩, hW, hsame.mono (by decide) (by decide)⟩
  · refine XS.aloadN X0.here hx rfl (hb hby d34_0) rfl rfl ?_
    show Steps _ _ _ (s₁.setTop (mkF m 1 #[rv u0, iv p1] [(.ref u0)])) _
    refine st1.trans ?_
    refine XS.ifNo X1.here hx rfl (hb hby d34_4) rfl ((if0 _ _).trans (feq (by decide : ¬ ((1 : Int32) = (0 : Int32)))).1) ?_
    refine XS.aloadN X1.here hx rfl (hb hby d34_7) rfl rfl ?_
    refine st3 _ ?_
    refine XS.iloadN X3.here hx rfl (hb hby d34_11) rfl ?_
    show Steps _ _ _ (T3.setTop (mkF m 12 #[rv u0, iv p1] [(.int p1), (.ref tv)])) _
    refine st4 _ ?_
    show Steps _ _ _ (T4.setTop (mkF m 15 #[rv u0, iv p1] [(.int (own_ch (own_at vs p1)))])) _
    exact retN X4 hx (t := .char) Bd.returns (by simp) (hb hby d34_15) hr
  · show own_QP (some (.int (nar .char (own_ch (own_at vs p1))))) h0 n0 _ T4.heap _
    rw [e4]
    exact ⟨rfl, N4, rfl⟩

theorem ef_rmRB (m : MethodId) (x0 : Addr) (x1 : Int32) (x2 : Int32) : entryFrame m #[(.ref x0), (.int x1), (.int x2)] 5 = mkF m 0 #[rv x0, iv x1, iv x2, .unset, .unset] [] := by first | (simp [entryFrame, mkF, argsToLocals, Value.category]; done) | rfl
def Q_rmRB (Z : State) (u0 : Addr) (p2 : Int32) (kt : ClassId) (z : Int32) (vs : List Value) (xl : List Int32) (h0 : Heap) (n0 : Nat) (v : Option Value) (h : Heap) (L : List Loc) : Prop := ∃ (yv : Addr), ∃ (ky : ClassId), ∃ (ys : List Value), (v = (some (.ref yv)) ∧ Fr n0 L ∧ Keep h0 h [] ∧ h0.size ≤ yv ∧ Exa Z h yv "[B" ∧ Arv Z h yv ky .byte p2 ys (.int 0) ∧ (own_has ys xl))
set_option maxRecDepth 65536 in
set_option maxHeartbeats 40000000 in
theorem rmRB (l : Launch) (Z : State) (a0 : Array Value) (hw : ∀ d ∈ tables_1, d.before a0 Z = true) (ws : List Jvm.Cond) (u0 : Addr) (p2 : Int32) (kt : ClassId) (z : Int32) (vs : List Value) (xl : List Int32) (h0 : Heap) (n0 : Nat) (Z0 : n0 ≤ h0.size) (P_G_u0 : Arv Z h0 u0 kt .byte z vs (.int 0)) (wh : own_has vs xl) (wn : own_len xl p2) (w34 : xl.length ≤ 34) (wlt : p2 < z) :
    own_MF l own_y10 (Jvm.Cond.code own_y10 jdk_65_method_133_code 5 (some (.array .byte))) ws ({ frames := 1, cells := 1, slots := 34, locals := 18 } : Room) #[(.ref u0), (.int (0 : Int32)), (.int p2)] Z h0 (Q_rmRB Z u0 p2 kt z vs xl h0 n0) := by
  refine MetFree.of_bodySF (plainFor_of_name pn_31) hisR ?_
  intro p e s m args below meth c s₁ Bd hml0 hP hK
  obtain ⟨rfl, hZ, hh⟩ := hP
  have hx := Bd.exec
  have hby := Bd.bytes
  have hml : c.maxLocals = 5 := hml0
  have hown : s.vm.findClass "java/util/Arrays" = some m.cls := findClass_of_methodNamed Bd.named
  have hnm := (name_of_methodNamed Bd.named Bd.method).1
  have X0 : Stand p l e ({ frames := 1, cells := 1, slots := 34, locals := 18 } : Room) s m #[(.ref u0), (.int (0 : Int32)), (.int p2)] below meth c s₁ [] 0 0 := Stand.of_body Bd
  have e0 : s₁.heap = h0 := by rw [← hh, Bd.state]; rfl
  have N0 := Fr.nil n0
  have pre0 : ∀ t, Steps p.tables e below (s₁.setTop (mkF m 0 #[rv u0, iv (0 : Int32), iv p2, .unset, .unset] [])) t → Steps p.tables e below (s₁.setTop (entryFrame m #[(.ref u0), (.int (0 : Int32)), (.int p2)] 5)) t := fun t k => castTop (ef_rmRB m u0 (0 : Int32) p2) k
  obtain ⟨_, _, ⟨T1, L1, k1, n1⟩, -, X1, ⟨Lc1, hQ1, l1, y1, z1⟩, st1⟩ := Jvm.LawKit.callS X0 hx (y := own_y5) hown (mvT hZ (own_g hw 178 rfl)) (mvT hZ (own_g hw 179 rfl)) (mvT hZ (own_g hw 136 rfl)) (mvT hZ (own_g hw 180 rfl)) (by decide) (backOf (W := 0) (rmCk l Z a0 hw [] (0 : Int32) p2 h0 n0 Z0 (own_b0 wn)) hZ (own_g hw 180 rfl) (own_g hw 136 rfl) (by decide) (by decide)) (g := (mkF m 2 #[rv u0, iv (0 : Int32), iv p2, .unset, .unset] [(.int p2), (.int (0 : Int32))])) rfl (by rw [hml]; rfl) (argsL := [(.int (0 : Int32)), (.int p2)]) (rest := []) (lenOf pd__II_V rfl) rfl (by show 2 * 0 + _ ≤ _; exact Nat.le_of_eq rfl) (hb hby d31_2) (fun _ _ => ⟨rfl, e0, (by decide : 0 + 0 ≤ _), (by decide : 0 + 0 ≤ _)⟩)
  dsimp only [Pt.U, Pt.locs, Pt.cells, Pt.slots] at X1 l1 y1 z1 st1 hQ1
  subst l1 y1 z1
  obtain ⟨rfl, N1q, e1⟩ := hQ1
  have N1 := Fr.app N0 N1q
  obtain ⟨T2, h2, k2, X2, e2, E2, A2, Q2, st2⟩ := newPE X1 hx hZ (own_g hw 31 rfl) e1 (g := (mkF m 10 #[rv u0, iv (0 : Int32), iv p2, iv p2, .unset] [(.int p2)])) rfl (hb hby d31_10) rfl (own_b0 wn) (cap := 34) (own_b1 wn w34) (by decide) (by decide) (by decide) (ad := "[B") rfl
  obtain ⟨b2, g2⟩ : ∃ z, z = h0.size := ⟨_, rfl⟩
  rw [← g2] at A2 st2 Q2
  have ne3 : u0 ≠ b2 := Nat.ne_of_lt (Nat.lt_of_lt_of_le P_G_u0.lt (Nat.le_of_eq g2.symm))
  have o2 : n0 ≤ b2 := Nat.le_trans Z0 (Nat.le_of_eq g2.symm)
  have z2 : h0.size ≤ b2 := Nat.le_trans (Keep.refl h0 []).1 (Nat.le_of_eq g2.symm)
  have K2 : Keep h0 h2 [] := (Keep.refl h0 []).ext E2
  have V2 : Arv Z h2 b2 k2 .byte p2 (List.replicate 34 (.int 0)) (.int 0) := (Arv.new A2 (own_b0 wn)).pad (pad_rep [] (.int 0) 34)
  have f4 := (P_G_u0.ext E2)
  obtain ⟨cl5, Ar5, qq5, S5, N5_, H5, G5⟩ := id f4
  have f6 := (Nat.le_trans Z0 E2.1)
  obtain ⟨_, _, ⟨T7, L7, k7, n7⟩, -, X7, ⟨Lc7, hQ7, l7, y7, z7⟩, st7⟩ := Jvm.LawKit.callS X2 hx (y := own_y4) hown (mvT hZ (own_g hw 138 rfl)) (mvT hZ (own_g hw 139 rfl)) (mvT hZ (own_g hw 130 rfl)) (mvT hZ (own_g hw 140 rfl)) (by decide) (backOf (W := 4) (rmMi l Z a0 hw [] z p2 h2 n0 f6 ) hZ (own_g hw 140 rfl) (own_g hw 130 rfl) (by decide) (by decide)) (g := (mkF m 24 #[rv u0, iv (0 : Int32), iv p2, iv p2, rv b2] [(.int p2), (.int z), (.int (0 : Int32)), (.ref b2), (.int (0 : Int32)), (.ref u0)])) rfl (by rw [hml]; rfl) (argsL := [(.int z), (.int p2)]) (rest := [(.int (0 : Int32)), (.ref b2), (.int (0 : Int32)), (.ref u0)]) (lenOf pd__II_I rfl) rfl (by show 2 * 0 + _ ≤ _; exact Nat.le_of_eq rfl) (hb hby d31_24) (fun _ _ => ⟨rfl, e2, (by decide : 1 + 0 ≤ _), (by decide : 34 + 0 ≤ _)⟩)
  dsimp only [Pt.U, Pt.locs, Pt.cells, Pt.slots] at X7 l7 y7 z7 st7 hQ7
  subst l7 y7 z7
  obtain ⟨rfl, N7q, e7⟩ := hQ7
  have N7 := Fr.app N1 N7q
  have pre8 : ∀ t, Steps p.tables e below (T7.setTop (mkF m 27 #[rv u0, iv (0 : Int32), iv p2, iv p2, rv b2] [(.int (own_min z p2)), (.int (0 : Int32)), (.ref b2), (.int (0 : Int32)), (.ref u0)])) t → Steps p.tables e below (s₁.setTop (entryFrame m #[(.ref u0), (.int (0 : Int32)), (.int p2)] 5)) t := fun t kt => pre0 t (by
   refine XS.iloadN X0.here hx rfl (hb hby d31_0) rfl ?_
   refine XS.iloadN X0.here hx rfl (hb hby d31_1) rfl ?_
   show Steps _ _ _ (s₁.setTop (mkF m 2 #[rv u0, iv (0 : Int32), iv p2, .unset, .unset] [(.int p2), (.int (0 : Int32))])) _
   refine st1 _ ?_
   refine XS.iloadN X1.here hx rfl (hb hby d31_5) rfl ?_
   refine XS.iloadN X1.here hx rfl (hb hby d31_6) rfl ?_
   refine XS.isub X1.here hx rfl (hb hby d31_7) rfl ?_
   show Steps _ _ _ (T1.setTop (mkF m 8 #[rv u0, iv (0 : Int32), iv p2, .unset, .unset] [(.int (p2 - (0 : Int32)))])) _
   rw [own_s0 p2]
   refine XS.istoreN X1.here hx rfl (hb hby d31_8) rfl (l' := #[rv u0, iv (0 : Int32), iv p2, iv p2, .unset]) rfl ?_
   refine XS.iloadN X1.here hx rfl (hb hby d31_9) rfl ?_
   refine st2 _ ?_
   refine XS.astore X2.here hx rfl (hb hby d31_12) rfl rfl (l' := #[rv u0, iv (0 : Int32), iv p2, iv p2, rv b2]) rfl ?_
   refine XS.aloadN X2.here hx rfl (hb hby d31_14) rfl rfl ?_
   refine XS.iloadN X2.here hx rfl (hb hby d31_15) rfl ?_
   refine XS.aload X2.here hx rfl (hb hby d31_16) rfl rfl ?_
   refine XS.iconst X2.here hx rfl (hb hby d31_18) ?_
   refine XS.aloadN X2.here hx rfl (hb hby d31_19) rfl rfl ?_
   refine X2.arraylength hx (by rw [e2]; exact Ar5.1) (State.isArrayOf_alike hZ.alike Ar5.2.1) (g := (mkF m 20 #[rv u0, iv (0 : Int32), iv p2, iv p2, rv b2] [(.ref u0), (.int (0 : Int32)), (.ref b2), (.int (0 : Int32)), (.ref u0)])) rfl rfl (hb hby d31_20) _ ?_
   rw [len_of S5 N5_]
   refine XS.iloadN X2.here hx rfl (hb hby d31_21) rfl ?_
   refine XS.isub X2.here hx rfl (hb hby d31_22) rfl ?_
   show Steps _ _ _ (T2.setTop (mkF m 23 #[rv u0, iv (0 : Int32), iv p2, iv p2, rv b2] [(.int (z - (0 : Int32))), (.int (0 : Int32)), (.ref b2), (.int (0 : Int32)), (.ref u0)])) _
   rw [own_s0 z]
   refine XS.iloadN X2.here hx rfl (hb hby d31_23) rfl ?_
   show Steps _ _ _ (T2.setTop (mkF m 24 #[rv u0, iv (0 : Int32), iv p2, iv p2, rv b2] [(.int p2), (.int z), (.int (0 : Int32)), (.ref b2), (.int (0 : Int32)), (.ref u0)])) _
   refine st7 _ ?_
   exact kt)
  rw [(show own_min z p2 = p2 from if_pos wlt)] at pre8
  obtain ⟨T9, h9, L9, X9, e9, N9, K9, V9_, st9⟩ := cpA X7 hx hZ hown (own_g hw 141 rfl) (own_g hw 116 rfl) (own_g hw 114 rfl) (own_g hw 115 rfl) e7 f4 V2  (Or.inl ⟨rfl, rfl⟩) (sp := (0 : Int32)) (dp := (0 : Int32)) (nn := p2) (by decide) (by decide) (own_b0 wn) (own_b3 wn wlt) (own_b4 p2) rfl (own_b5 wn w34) N7 o2 (g := (mkF m 27 #[rv u0, iv (0 : Int32), iv p2, iv p2, rv b2] [(.int p2), (.int (0 : Int32)), (.ref b2), (.int (0 : Int32)), (.ref u0)])) rfl (by rw [hml]; rfl) rfl (hb hby d31_27) (by decide) (W := 0) (by show 2 * 0 + _ ≤ _; exact Nat.le_of_eq rfl) (by decide)
  have KK9 : Keep h0 h9 [] := Keep.trans K2 K9 (allS (Or.inr z2) all0)
  obtain ⟨vx9, V9, hvx9⟩ : ∃ vx, Arv Z h9 b2 k2 .byte p2 vx (.int 0) ∧ vx = ((List.replicate 34 (.int 0))).take ((0 : Int32)).toNatClampNeg ++ (List.range (p2).toNatClampNeg).map (fun i => (vs).getD (((0 : Int32)).toNatClampNeg + i) (.int 0)) ++ ((List.replicate 34 (.int 0))).drop (((0 : Int32)).toNatClampNeg + (p2).toNatClampNeg) := ⟨_, V9_, rfl⟩
  obtain ⟨fs, hr, hrun, hended, hW, hsame⟩ := X9.leave (v := some (.ref b2)) (fun h => by rw [Bd.returns] at h; cases h)
  have f10 := (Q2.keep K9)
  refine ⟨_, _, pre8 _ ?_, hrun, hended, _, _, rfl, ?_, ⟨_, rfl⟩, hW, hsame.mono (by decide) (by decide)⟩
  · show Steps _ _ _ (T7.setTop (mkF m 27 #[rv u0, iv (0 : Int32), iv p2, iv p2, rv b2] [(.int p2), (.int (0 : Int32)), (.ref b2), (.int (0 : Int32)), (.ref u0)])) _
    refine st9 _ ?_
    refine XS.aload X9.here hx rfl (hb hby d31_30) rfl rfl ?_
    show Steps _ _ _ (T9.setTop (mkF m 32 #[rv u0, iv (0 : Int32), iv p2, iv p2, rv b2] [(.ref b2)])) _
    exact retOut X9 hx Bd.returns rfl (Or.inr (Or.inr (Or.inr (Or.inr ⟨rfl, rfl, rfl⟩)))) (hb hby d31_32) hr
  · show Q_rmRB Z u0 p2 kt z vs xl h0 n0 _ T9.heap _
    rw [e9]
    exact ⟨b2, k2, vx9, rfl, N9, KK9, z2, f10, V9, (own_b6 wn w34 wh hvx9)⟩

theorem ef_rmRA (m : MethodId) (x0 : Addr) (x1 : Int32) (x2 : Int32) : entryFrame m #[(.ref x0), (.int x1), (.int x2)] 3 = mkF m 0 #[rv x0, iv x1, iv x2] [] := by first | (simp [entryFrame, mkF, argsToLocals, Value.category]; done) | rfl
def Q_rmRA (Z : State) (u0 : Addr) (p2 : Int32) (kt : ClassId) (z : Int32) (vs : List Value) (xl : List Int32) (h0 : Heap) (n0 : Nat) (v : Option Value) (h : Heap) (L : List Loc) : Prop := ∃ (yv : Addr), ∃ (ky : ClassId), ∃ (ys : List Value), (v = (some (.ref yv)) ∧ Fr n0 L ∧ Keep h0 h [] ∧ h0.size ≤ yv ∧ Exa Z h yv "[B" ∧ Arv Z h yv ky .byte p2 ys (.int 0) ∧ (own_has ys xl))
set_option maxRecDepth 65536 in
set_option maxHeartbeats 40000000 in
theorem rmRA (l : Launch) (Z : State) (a0 : Array Value) (hw : ∀ d ∈ tables_1, d.before a0 Z = true) (ws : List Jvm.Cond) (u0 : Addr) (p2 : Int32) (kt : ClassId) (z : Int32) (vs : List Value) (xl : List Int32) (h0 : Heap) (n0 : Nat) (Z0 : n0 ≤ h0.size) (P_E_u0 : Exa Z h0 u0 "[B") (P_G_u0 : Arv Z h0 u0 kt .byte z vs (.int 0)) (wh : own_has vs xl) (wn : own_len xl p2) (w34 : xl.length ≤ 34) (wi : own_in xl z) (wc : own_cap z vs) :
    own_MF l own_y11 (Jvm.Cond.code own_y11 jdk_65_method_132_code 3 (some (.array .byte))) ws ({ frames := 2, cells := 1, slots := 34, locals := 34 } : Room) #[(.ref u0), (.int (0 : Int32)), (.int p2)] Z h0 (Q_rmRA Z u0 p2 kt z vs xl h0 n0) := by
  refine MetFree.of_bodySF (plainFor_of_name pn_30) hisR ?_
  intro p e s m args below meth c s₁ Bd hml0 hP hK
  obtain ⟨rfl, hZ, hh⟩ := hP
  have hx := Bd.exec
  have hby := Bd.bytes
  have hml : c.maxLocals = 3 := hml0
  have hown : s.vm.findClass "java/util/Arrays" = some m.cls := findClass_of_methodNamed Bd.named
  have hnm := (name_of_methodNamed Bd.named Bd.method).1
  have X0 : Stand p l e ({ frames := 2, cells := 1, slots := 34, locals := 34 } : Room) s m #[(.ref u0), (.int (0 : Int32)), (.int p2)] below meth c s₁ [] 0 0 := Stand.of_body Bd
  have e0 : s₁.heap = h0 := by rw [← hh, Bd.state]; rfl
  have N0 := Fr.nil n0
  have pre0 : ∀ t, Steps p.tables e below (s₁.setTop (mkF m 0 #[rv u0, iv (0 : Int32), iv p2] [])) t → Steps p.tables e below (s₁.setTop (entryFrame m #[(.ref u0), (.int (0 : Int32)), (.int p2)] 3)) t := fun t k => castTop (ef_rmRA m u0 (0 : Int32) p2) k
  obtain ⟨cl1, Ar1, qq1, S1, N1_, H1, G1⟩ := id P_G_u0
  have pre3 : ∀ t, Steps p.tables e below (s₁.setTop (mkF m 7 #[rv u0, iv (0 : Int32), iv p2] [(.int z), (.int p2)])) t → Steps p.tables e below (s₁.setTop (entryFrame m #[(.ref u0), (.int (0 : Int32)), (.int p2)] 3)) t := fun t kt => pre0 t (by
   refine XS.iloadN X0.here hx rfl (hb hby d30_0) rfl ?_
   refine XS.ifNo X0.here hx rfl (hb hby d30_1) rfl ((if0 _ _).trans (teq (by decide : (0 : Int32) = (0 : Int32))).2) ?_
   refine XS.iloadN X0.here hx rfl (hb hby d30_4) rfl ?_
   refine XS.aloadN X0.here hx rfl (hb hby d30_5) rfl rfl ?_
   refine X0.arraylength hx (by rw [e0]; exact Ar1.1) (State.isArrayOf_alike hZ.alike Ar1.2.1) (g := (mkF m 6 #[rv u0, iv (0 : Int32), iv p2] [(.ref u0), (.int p2)])) rfl rfl (hb hby d30_6) _ ?_
   rw [len_of S1 N1_]
   exact kt)
  by_cases hc7_2 : p2 = z
  · obtain ⟨T4, h4, X4, e4, E4, A4, Q4, st4⟩ := cloneH X0 hx hZ hown (own_g hw 214 rfl) (own_g hw 215 rfl) (own_g hw 219 rfl) (own_g hw 217 rfl) (own_g hw 218 rfl) (own_g hw 220 rfl) e0 (Arv.arh P_G_u0) P_E_u0 (g := (mkF m 18 #[rv u0, iv (0 : Int32), iv p2] [(.ref u0)])) rfl (by rw [hml]; rfl) rfl (hb hby d30_18) (by decide) (W := 0) (by show 2 * 0 + _ ≤ _; exact Nat.le_of_eq rfl) (by decide) (cap := 34) (own_c34 wc) (by decide) (by decide)
    obtain ⟨b4, g4⟩ : ∃ z, z = h0.size := ⟨_, rfl⟩
    rw [← g4] at A4 st4 Q4
    have ne5 : u0 ≠ b4 := Nat.ne_of_lt (Nat.lt_of_lt_of_le P_E_u0.lt (Nat.le_of_eq g4.symm))
    have o4 : n0 ≤ b4 := Nat.le_trans Z0 (Nat.le_of_eq g4.symm)
    have z4 : h0.size ≤ b4 := Nat.le_trans (Keep.refl h0 []).1 (Nat.le_of_eq g4.symm)
    have K4 : Keep h0 h4 [] := (Keep.refl h0 []).ext E4
    have V4 : Arv Z h4 b4 kt .byte z vs (.int 0) := A4
    obtain ⟨T6, X6, e6, st6⟩ := castY X4 hx hZ hown (own_g hw 221 rfl) e4 (Ins.self Q4) (g := (mkF m 21 #[rv u0, iv (0 : Int32), iv p2] [(.ref b4)])) rfl rfl (hb hby d30_21)
    obtain ⟨fs, hr, hrun, hended, hW, hsame⟩ := X6.leave (v := some (.ref b4)) (fun h => by rw [Bd.returns] at h; cases h)
    refine ⟨_, _, pre3 _ ?_, hrun, hended, _, _, rfl, ?_, ⟨_, rfl⟩, hW, hsame.mono (by decide) (by decide)⟩
    · refine XS.icmpYes X0.here hx rfl (pc0 := 7) (pc' := 17) rfl (hb hby d30_7) rfl (teq hc7_2).1 (by decide) (by decide) ?_
      refine XS.aloadN X0.here hx rfl (hb hby d30_17) rfl rfl ?_
      show Steps _ _ _ (s₁.setTop (mkF m 18 #[rv u0, iv (0 : Int32), iv p2] [(.ref u0)])) _
      refine st4 _ ?_
      refine st6 _ ?_
      show Steps _ _ _ (T6.setTop (mkF m 24 #[rv u0, iv (0 : Int32), iv p2] [(.ref b4)])) _
      exact retOut X6 hx Bd.returns rfl (Or.inr (Or.inr (Or.inr (Or.inr ⟨rfl, rfl, rfl⟩)))) (hb hby d30_24) hr
    · show Q_rmRA Z u0 p2 kt z vs xl h0 n0 _ T6.heap _
      rw [e6]
      exact ⟨b4, kt, vs, rfl, N0, K4, z4, Q4, (by rw [hc7_2]; exact V4), wh⟩
  · obtain ⟨_, _, ⟨T7, L7, k7, n7⟩, -, X7, ⟨Lc7, hQ7, l7, y7, z7⟩, st7⟩ := Jvm.LawKit.callS X0 hx (y := own_y10) hown (mvT hZ (own_g hw 175 rfl)) (mvT hZ (own_g hw 176 rfl)) (mvT hZ (own_g hw 136 rfl)) (mvT hZ (own_g hw 177 rfl)) (by decide) (backOf (W := 0) (rmRB l Z a0 hw [] u0 p2 kt z vs xl h0 n0 Z0 P_G_u0 wh wn w34 (own_lt2 wn wi hc7_2)) hZ (own_g hw 177 rfl) (own_g hw 136 rfl) (by decide) (by decide)) (g := (mkF m 13 #[rv u0, iv (0 : Int32), iv p2] [(.int p2), (.int (0 : Int32)), (.ref u0)])) rfl (by rw [hml]; rfl) (argsL := [(.ref u0), (.int (0 : Int32)), (.int p2)]) (rest := []) (lenOf pd___BII__B rfl) rfl (by show 2 * 0 + _ ≤ _; exact Nat.le_of_eq rfl) (hb hby d30_13) (fun _ _ => ⟨rfl, e0, (by decide : 0 + 1 ≤ _), (by decide : 0 + 34 ≤ _)⟩)
    dsimp only [Pt.U, Pt.locs, Pt.cells, Pt.slots] at X7 l7 y7 z7 st7 hQ7
    subst l7 y7 z7
    obtain ⟨yv_7, ky_7, ys_7, rfl, N7q, K7, sx7_0, f8, f9, f10⟩ := hQ7
    have oyv_7 : n0 ≤ yv_7 := Nat.le_trans Z0 sx7_0
    have zyv_7 : h0.size ≤ yv_7 := Nat.le_trans (Keep.refl h0 []).1 sx7_0
    have ne11 : u0 ≠ yv_7 := Nat.ne_of_lt (Nat.lt_of_lt_of_le P_E_u0.lt sx7_0)
    have KK7 : Keep h0 T7.heap [] := Keep.trans (Keep.refl h0 []) K7 all0
    have N7 := Fr.app N0 N7q
    obtain ⟨fs, hr, hrun, hended, hW, hsame⟩ := X7.leave (v := some (.ref yv_7)) (fun h => by rw [Bd.returns] at h; cases h)
    refine ⟨_, _, pre3 _ ?_, hrun, hended, _, _, rfl, ?_, ⟨_, rfl⟩, hW, hsame.mono (by decide) (by decide)⟩
    · refine XS.icmpNo X0.here hx rfl (hb hby d30_7) rfl (feq hc7_2).1 ?_
      refine XS.aloadN X0.here hx rfl (hb hby d30_10) rfl rfl ?_
      refine XS.iloadN X0.here hx rfl (hb hby d30_11) rfl ?_
      refine XS.iloadN X0.here hx rfl (hb hby d30_12) rfl ?_
      show Steps _ _ _ (s₁.setTop (mkF m 13 #[rv u0, iv (0 : Int32), iv p2] [(.int p2), (.int (0 : Int32)), (.ref u0)])) _
      refine st7 _ ?_
      show Steps _ _ _ (T7.setTop (mkF m 16 #[rv u0, iv (0 : Int32), iv p2] [(.ref yv_7)])) _
      exact retOut X7 hx Bd.returns rfl (Or.inr (Or.inr (Or.inr (Or.inr ⟨rfl, rfl, rfl⟩)))) (hb hby d30_16) hr
    · show Q_rmRA Z u0 p2 kt z vs xl h0 n0 _ T7.heap _
      exact ⟨yv_7, ky_7, ys_7, rfl, N7, KK7, zyv_7, f8, f9, f10⟩

theorem ef_rmAI (m : MethodId) (x0 : Addr) (x1 : Int32) : entryFrame m #[(.ref x0), (.int x1)] 2 = mkF m 0 #[rv x0, iv x1] [] := by first | (simp [entryFrame, mkF, argsToLocals, Value.category]; done) | rfl
def Q_rmAI (Z : State) (u0 : Addr) (zC : Int32) (h0 : Heap) (n0 : Nat) (v : Option Value) (h : Heap) (L : List Loc) : Prop := ∃ (bv : Addr), ∃ (kb : ClassId), ∃ (bs : List Value), (v = none ∧ Fr n0 L ∧ Keep h0 h [u0] ∧ h0.size ≤ bv ∧ Exa Z h u0 "java/lang/StringBuilder" ∧ Fld Z h u0 "java/lang/AbstractStringBuilder" "value" "[B" (.ref bv) ∧ Fld Z h u0 "java/lang/AbstractStringBuilder" "coder" "B" (.int (0 : Int32)) ∧ Fld Z h u0 "java/lang/AbstractStringBuilder" "count" "I" (.int (0 : Int32)) ∧ Exa Z h bv "[B" ∧ Arv Z h bv kb .byte (16 : Int32) bs (.int 0) ∧ (own_cap (16 : Int32) bs))
set_option maxRecDepth 65536 in
set_option maxHeartbeats 40000000 in
theorem rmAI (l : Launch) (Z : State) (a0 : Array Value) (hw : ∀ d ∈ tables_1, d.before a0 Z = true) (ws : List Jvm.Cond) (u0 : Addr) (zC : Int32) (h0 : Heap) (n0 : Nat) (Z0 : n0 ≤ h0.size) (P_E_u0 : Exa Z h0 u0 "java/lang/StringBuilder") (P_F_u0_AbstractStringBuilder_value : Fld Z h0 u0 "java/lang/AbstractStringBuilder" "value" "[B" .null) (P_F_u0_AbstractStringBuilder_coder : Fld Z h0 u0 "java/lang/AbstractStringBuilder" "coder" "B" (.int (0 : Int32))) (P_F_u0_AbstractStringBuilder_count : Fld Z h0 u0 "java/lang/AbstractStringBuilder" "count" "I" (.int (0 : Int32))) (P_S_String_COMPACT_STRINGS : Sta Z h0 "java/lang/String" "COMPACT_STRINGS" "Z" (.int zC)) (hz : ¬ (zC = (0 : Int32))) (g_u0 : n0 ≤ u0) :
    own_MF l own_y12 (Jvm.Cond.code own_y12 jdk_68_method_2_code 2 none) ws ({ frames := 1, cells := 1, slots := 16, locals := 12 } : Room) #[(.ref u0), (.int (16 : Int32))] Z h0 (Q_rmAI Z u0 zC h0 n0) := by
  refine MetFree.of_bodySF (plainFor_of_name pn_9) hisR ?_
  intro p e s m args below meth c s₁ Bd hml0 hP hK
  obtain ⟨rfl, hZ, hh⟩ := hP
  have hx := Bd.exec
  have hby := Bd.bytes
  have hml : c.maxLocals = 2 := hml0
  have hown : s.vm.findClass "java/lang/AbstractStringBuilder" = some m.cls := findClass_of_methodNamed Bd.named
  have hnm := (name_of_methodNamed Bd.named Bd.method).1
  have X0 : Stand p l e ({ frames := 1, cells := 1, slots := 16, locals := 12 } : Room) s m #[(.ref u0), (.int (16 : Int32))] below meth c s₁ [] 0 0 := Stand.of_body Bd
  have e0 : s₁.heap = h0 := by rw [← hh, Bd.state]; rfl
  have N0 := Fr.nil n0
  have pre0 : ∀ t, Steps p.tables e below (s₁.setTop (mkF m 0 #[rv u0, iv (16 : Int32)] [])) t → Steps p.tables e below (s₁.setTop (entryFrame m #[(.ref u0), (.int (16 : Int32))] 2)) t := fun t k => castTop (ef_rmAI m u0 (16 : Int32)) k
  obtain ⟨T1, X1, e1, st1⟩ := initO X0 hx hZ hown (own_g hw 61 rfl) (own_g hw 24 rfl) (own_g hw 25 rfl) e0 (g := (mkF m 1 #[rv u0, iv (16 : Int32)] [(.ref u0)])) rfl (by rw [hml]; rfl) rfl (hb hby d9_1) (by decide) (W := 0) (by show 2 * 0 + _ ≤ _; exact Nat.le_of_eq rfl) (by decide)
  obtain ⟨T2, X2, e2, st2⟩ := getS2 X1 hx hZ hown (host := "") (Or.inl (own_g hw 62 rfl)) Via.refl e1 P_S_String_COMPACT_STRINGS (g := (mkF m 4 #[rv u0, iv (16 : Int32)] [])) rfl (hb hby d9_4)
  obtain ⟨T3, h3, k3, X3, e3, E3, A3, Q3, st3⟩ := newPE X2 hx hZ (own_g hw 31 rfl) e2 (g := (mkF m 12 #[rv u0, iv (16 : Int32)] [(.int (16 : Int32)), (.ref u0)])) rfl (hb hby d9_12) rfl (by decide) (cap := 16) (by decide) (by decide) (by decide) (by decide) (ad := "[B") rfl
  obtain ⟨b3, g3⟩ : ∃ z, z = h0.size := ⟨_, rfl⟩
  rw [← g3] at A3 st3 Q3
  have ne4 : u0 ≠ b3 := Nat.ne_of_lt (Nat.lt_of_lt_of_le P_E_u0.lt (Nat.le_of_eq g3.symm))
  have o3 : n0 ≤ b3 := Nat.le_trans Z0 (Nat.le_of_eq g3.symm)
  have z3 : h0.size ≤ b3 := Nat.le_trans (Keep.refl h0 [u0]).1 (Nat.le_of_eq g3.symm)
  have K3 : Keep h0 h3 [u0] := (Keep.refl h0 [u0]).ext E3
  have V3 : Arv Z h3 b3 k3 .byte (16 : Int32) [(.int (0 : Int32)), (.int (0 : Int32)), (.int (0 : Int32)), (.int (0 : Int32)), (.int (0 : Int32)), (.int (0 : Int32)), (.int (0 : Int32)), (.int (0 : Int32)), (.int (0 : Int32)), (.int (0 : Int32)), (.int (0 : Int32)), (.int (0 : Int32)), (.int (0 : Int32)), (.int (0 : Int32)), (.int (0 : Int32)), (.int (0 : Int32))] (.int (0 : Int32)) := (Arv.new A3 (by decide)).pad (pad_rep [] (.int (0 : Int32)) 16)
  have f5 := (P_E_u0.ext E3)
  have f6 := (P_F_u0_AbstractStringBuilder_value.ext E3)
  obtain ⟨T7, h7, X7, e7, W7, st7⟩ := putF X3 hx hZ hown (host := "") (Or.inl (own_g hw 63 rfl)) Via.refl e3 f6 f5 (Or.inl (own_g hw 64 rfl)) (own_g hw 50 rfl) (ty := (.array .byte)) (by decide) rfl rfl (g := (mkF m 14 #[rv u0, iv (16 : Int32)] [(.ref b3), (.ref u0)])) rfl rfl (hb hby d9_14)
  have f7_ : Fld Z h7 u0 "java/lang/AbstractStringBuilder" "value" "[B" (.ref b3) := f6.same W7
  have N8 := Fr.snoc X7 N0 g_u0
  have K9 : Keep h0 h7 [u0] := K3.wr W7 (Or.inl (List.mem_of_getElem? (i := 0) rfl))
  have f10 := (f5.wr W7)
  have f11 := ((P_F_u0_AbstractStringBuilder_coder.ext E3).other W7 (Or.inr (slot_ne (Or.inl (own_g hw 66 rfl)) (Or.inl (own_g hw 64 rfl)) (by decide) (t := .byte) (t' := (.array .byte)) (by decide) (by decide))))
  obtain ⟨T12, h12, X12, e12, W12, st12⟩ := putFN X7 hx hZ hown (own_g hw 65 rfl) Via.refl e7 f11 f10 (Or.inl (own_g hw 66 rfl)) (own_g hw 50 rfl) (ty := .byte) (v' := (.int (0 : Int32))) (by decide) rfl rfl (g := (mkF m 19 #[rv u0, iv (16 : Int32)] [(.int (0 : Int32)), (.ref u0)])) rfl rfl (hb hby d9_19)
  have f12_ : Fld Z h12 u0 "java/lang/AbstractStringBuilder" "coder" "B" (.int (0 : Int32)) := f11.same W12
  have N13 := Fr.snoc X12 N8 g_u0
  have K14 : Keep h0 h12 [u0] := K9.wr W12 (Or.inl (List.mem_of_getElem? (i := 0) rfl))
  obtain ⟨fs, hr, hrun, hended, hW, hsame⟩ := X12.leave (v := none) (fun _ => rfl)
  have f15 := (f10.wr W12)
  have f16 := (f7_.other W12 (Or.inr (slot_ne (Or.inl (own_g hw 64 rfl)) (Or.inl (own_g hw 66 rfl)) (by decide) (t := (.array .byte)) (t' := .byte) (by decide) (by decide))))
  have f17 := (((P_F_u0_AbstractStringBuilder_count.ext E3).other W7 (Or.inr (slot_ne (Or.inl (own_g hw 91 rfl)) (Or.inl (own_g hw 64 rfl)) (by decide) (t := .int) (t' := (.array .byte)) (by decide) (by decide)))).other W12 (Or.inr (slot_ne (Or.inl (own_g hw 91 rfl)) (Or.inl (own_g hw 66 rfl)) (by decide) (t := .int) (t' := .byte) (by decide) (by decide))))
  have f18 := ((Q3.wr W7).wr W12)
  have f19 := ((V3.other W7 (Ne.symm ne4)).other W12 (Ne.symm ne4))
  refine ⟨_, _, pre0 _ ?_, hrun, hended, _, _, rfl, ?_, ⟨_, rfl⟩, hW, hsame.mono (by decide) (by decide)⟩
  · refine XS.aloadN X0.here hx rfl (hb hby d9_0) rfl rfl ?_
    show Steps _ _ _ (s₁.setTop (mkF m 1 #[rv u0, iv (16 : Int32)] [(.ref u0)])) _
    refine st1 _ ?_
    refine st2 _ ?_
    refine XS.ifNo X2.here hx rfl (hb hby d9_7) rfl ((if0 _ _).trans (feq hz).1) ?_
    refine XS.aloadN X2.here hx rfl (hb hby d9_10) rfl rfl ?_
    refine XS.iloadN X2.here hx rfl (hb hby d9_11) rfl ?_
    refine st3 _ ?_
    refine st7 _ ?_
    refine XS.aloadN X7.here hx rfl (hb hby d9_17) rfl rfl ?_
    refine XS.iconst X7.here hx rfl (hb hby d9_18) ?_
    refine st12 _ ?_
    refine XS.goto X12.here hx rfl (pc0 := 22) (pc' := 38) rfl (hb hby d9_22) (by decide) (by decide) ?_
    show Steps _ _ _ (T12.setTop (mkF m 38 #[rv u0, iv (16 : Int32)] [])) _
    exact X12.returnOut hx Bd.returns (hb hby d9_38) hr
  · show Q_rmAI Z u0 zC h0 n0 _ T12.heap _
    rw [e12]
    exact ⟨b3, k3, [(.int (0 : Int32)), (.int (0 : Int32)), (.int (0 : Int32)), (.int (0 : Int32)), (.int (0 : Int32)), (.int (0 : Int32)), (.int (0 : Int32)), (.int (0 : Int32)), (.int (0 : Int32)), (.int (0 : Int32)), (.int (0 : Int32)), (.int (0 : Int32)), (.int (0 : Int32)), (.int (0 : Int32)), (.int (0 : Int32)), (.int (0 : Int32))], rfl, N13, K14, z3, f15, f16, f12_, f17, f18, f19, ⟨Or.inl rfl, Nat.le_of_ble_eq_true rfl⟩⟩

theorem ef_rmBI (m : MethodId) (x0 : Addr) : entryFrame m #[(.ref x0)] 1 = mkF m 0 #[rv x0] [] := by first | (simp [entryFrame, mkF, argsToLocals, Value.category]; done) | rfl
def Q_rmBI (Z : State) (u0 : Addr) (zC : Int32) (h0 : Heap) (n0 : Nat) (v : Option Value) (h : Heap) (L : List Loc) : Prop := ∃ (bv : Addr), ∃ (kb : ClassId), ∃ (bs : List Value), (v = none ∧ Fr n0 L ∧ Keep h0 h [u0] ∧ h0.size ≤ bv ∧ Exa Z h u0 "java/lang/StringBuilder" ∧ Fld Z h u0 "java/lang/AbstractStringBuilder" "value" "[B" (.ref bv) ∧ Fld Z h u0 "java/lang/AbstractStringBuilder" "coder" "B" (.int (0 : Int32)) ∧ Fld Z h u0 "java/lang/AbstractStringBuilder" "count" "I" (.int (0 : Int32)) ∧ Exa Z h bv "[B" ∧ Arv Z h bv kb .byte (16 : Int32) bs (.int 0) ∧ (own_cap (16 : Int32) bs))
set_option maxRecDepth 65536 in
set_option maxHeartbeats 40000000 in
theorem rmBI (l : Launch) (Z : State) (a0 : Array Value) (hw : ∀ d ∈ tables_1, d.before a0 Z = true) (ws : List Jvm.Cond) (u0 : Addr) (zC : Int32) (h0 : Heap) (n0 : Nat) (Z0 : n0 ≤ h0.size) (P_E_u0 : Exa Z h0 u0 "java/lang/StringBuilder") (P_F_u0_AbstractStringBuilder_value : Fld Z h0 u0 "java/lang/AbstractStringBuilder" "value" "[B" .null) (P_F_u0_AbstractStringBuilder_coder : Fld Z h0 u0 "java/lang/AbstractStringBuilder" "coder" "B" (.int (0 : Int32))) (P_F_u0_AbstractStringBuilder_count : Fld Z h0 u0 "java/lang/AbstractStringBuilder" "count" "I" (.int (0 : Int32))) (P_S_String_COMPACT_STRINGS : Sta Z h0 "java/lang/String" "COMPACT_STRINGS" "Z" (.int zC)) (hz : ¬ (zC = (0 : Int32))) (g_u0 : n0 ≤ u0) :
    own_MF l own_y13 (Jvm.Cond.code own_y13 jdk_67_method_1_code 1 none) ws ({ frames := 2, cells := 1, slots := 16, locals := 25 } : Room) #[(.ref u0)] Z h0 (Q_rmBI Z u0 zC h0 n0) := by
  refine MetFree.of_bodySF (plainFor_of_name pn_8) hisR ?_
  intro p e s m args below meth c s₁ Bd hml0 hP hK
  obtain ⟨rfl, hZ, hh⟩ := hP
  have hx := Bd.exec
  have hby := Bd.bytes
  have hml : c.maxLocals = 1 := hml0
  have hown : s.vm.findClass "java/lang/StringBuilder" = some m.cls := findClass_of_methodNamed Bd.named
  have hnm := (name_of_methodNamed Bd.named Bd.method).1
  have X0 : Stand p l e ({ frames := 2, cells := 1, slots := 16, locals := 25 } : Room) s m #[(.ref u0)] below meth c s₁ [] 0 0 := Stand.of_body Bd
  have e0 : s₁.heap = h0 := by rw [← hh, Bd.state]; rfl
  have N0 := Fr.nil n0
  have pre0 : ∀ t, Steps p.tables e below (s₁.setTop (mkF m 0 #[rv u0] [])) t → Steps p.tables e below (s₁.setTop (entryFrame m #[(.ref u0)] 1)) t := fun t k => castTop (ef_rmBI m u0) k
  obtain ⟨_, _, ⟨T1, L1, k1, n1⟩, -, X1, ⟨Lc1, hQ1, l1, y1, z1⟩, st1⟩ := X0.specialBack hx (y := own_y12) rfl hown (mvT hZ (own_g hw 55 rfl)) (mvT hZ (own_g hw 56 rfl)) (mvT hZ (own_g hw 60 rfl)) (by decide) (backOf (W := 0) (rmAI l Z a0 hw [] u0 zC h0 n0 Z0 P_E_u0 P_F_u0_AbstractStringBuilder_value P_F_u0_AbstractStringBuilder_coder P_F_u0_AbstractStringBuilder_count P_S_String_COMPACT_STRINGS hz g_u0) hZ (own_g hw 60 rfl) (own_g hw 59 rfl) (by decide) (by decide)) (g := (mkF m 3 #[rv u0] [(.int (16 : Int32)), (.ref u0)])) rfl (by rw [hml]; rfl) (Steps.refl _) (a := u0) (argsL := [(.int (16 : Int32))]) (rest := []) (lenOf pd__I_V rfl) rfl (by show 2 * 0 + _ ≤ _; exact Nat.le_of_eq rfl) (hb hby d8_3) (fun _ _ => ⟨rfl, e0, (by decide : 0 + 1 ≤ _), (by decide : 0 + 16 ≤ _)⟩)
  dsimp only [Pt.U, Pt.locs, Pt.cells, Pt.slots] at X1 l1 y1 z1 st1 hQ1
  subst l1 y1 z1
  obtain ⟨bv_1, kb_1, bs_1, rfl, N1q, K1, sx1_0, f2, f3, f4, f5, f6, f7, f8⟩ := hQ1
  have obv_1 : n0 ≤ bv_1 := Nat.le_trans Z0 sx1_0
  have zbv_1 : h0.size ≤ bv_1 := Nat.le_trans (Keep.refl h0 [u0]).1 sx1_0
  have ne9 : u0 ≠ bv_1 := Nat.ne_of_lt (Nat.lt_of_lt_of_le P_E_u0.lt sx1_0)
  have KK1 : Keep h0 T1.heap [u0] := Keep.trans (Keep.refl h0 [u0]) K1 (allS (Or.inl (List.mem_of_getElem? (i := 0) rfl)) all0)
  have N1 := Fr.app N0 N1q
  obtain ⟨fs, hr, hrun, hended, hW, hsame⟩ := X1.leave (v := none) (fun _ => rfl)
  refine ⟨_, _, pre0 _ ?_, hrun, hended, _, _, rfl, ?_, ⟨_, rfl⟩, hW, hsame.mono (by decide) (by decide)⟩
  · refine XS.aloadN X0.here hx rfl (hb hby d8_0) rfl rfl ?_
    refine XS.bipush X0.here hx rfl (hb hby d8_1) ?_
    show Steps _ _ _ (s₁.setTop (mkF m 3 #[rv u0] [(.int (16 : Int32)), (.ref u0)])) _
    refine st1.trans ?_
    show Steps _ _ _ (T1.setTop (mkF m 6 #[rv u0] [])) _
    exact X1.returnOut hx Bd.returns (hb hby d8_6) hr
  · show Q_rmBI Z u0 zC h0 n0 _ T1.heap _
    exact ⟨bv_1, kb_1, bs_1, rfl, N1, KK1, zbv_1, f2, f3, f4, f5, f6, f7, f8⟩

theorem ef_rmGV (m : MethodId) (x0 : Addr) : entryFrame m #[(.ref x0)] 1 = mkF m 0 #[rv x0] [] := by first | (simp [entryFrame, mkF, argsToLocals, Value.category]; done) | rfl
set_option maxRecDepth 65536 in
set_option maxHeartbeats 40000000 in
theorem rmGV (l : Launch) (Z : State) (a0 : Array Value) (hw : ∀ d ∈ tables_1, d.before a0 Z = true) (ws : List Jvm.Cond) (u0 : Addr) (bv : Addr) (h0 : Heap) (n0 : Nat) (Z0 : n0 ≤ h0.size) (P_E_u0 : Exa Z h0 u0 "java/lang/StringBuilder") (P_F_u0_AbstractStringBuilder_value : Fld Z h0 u0 "java/lang/AbstractStringBuilder" "value" "[B" (.ref bv)) :
    own_MF l own_y14 (Jvm.Cond.code own_y14 jdk_68_method_64_code 1 (some (.array .byte))) ws ({ frames := 0, cells := 0, slots := 0, locals := 0 } : Room) #[(.ref u0)] Z h0 (own_QP (some (.ref bv)) h0 n0) := by
  refine MetFree.of_bodySF (plainFor_of_name pn_26) hisR ?_
  intro p e s m args below meth c s₁ Bd hml0 hP hK
  obtain ⟨rfl, hZ, hh⟩ := hP
  have hx := Bd.exec
  have hby := Bd.bytes
  have hml : c.maxLocals = 1 := hml0
  have hown : s.vm.findClass "java/lang/AbstractStringBuilder" = some m.cls := findClass_of_methodNamed Bd.named
  have hnm := (name_of_methodNamed Bd.named Bd.method).1
  have X0 : Stand p l e ({ frames := 0, cells := 0, slots := 0, locals := 0 } : Room) s m #[(.ref u0)] below meth c s₁ [] 0 0 := Stand.of_body Bd
  have e0 : s₁.heap = h0 := by rw [← hh, Bd.state]; rfl
  have N0 := Fr.nil n0
  have pre0 : ∀ t, Steps p.tables e below (s₁.setTop (mkF m 0 #[rv u0] [])) t → Steps p.tables e below (s₁.setTop (entryFrame m #[(.ref u0)] 1)) t := fun t k => castTop (ef_rmGV m u0) k
  obtain ⟨T1, X1, e1, st1⟩ := getF X0 hx hZ hown (host := "") (Or.inl (own_g hw 63 rfl)) Via.refl e0 P_F_u0_AbstractStringBuilder_value (g := (mkF m 1 #[rv u0] [(.ref u0)])) rfl rfl (hb hby d26_1)
  obtain ⟨fs, hr, hrun, hended, hW, hsame⟩ := X1.leave (v := some (.ref bv)) (fun h => by rw [Bd.returns] at h; cases h)
  refine ⟨_, _, pre0 _ ?_, hrun, hended, _, _, rfl, ?_, ⟨_, rfl⟩, hW, hsame.mono (by decide) (by decide)⟩
  · refine XS.aloadN X0.here hx rfl (hb hby d26_0) rfl rfl ?_
    refine st1 _ ?_
    show Steps _ _ _ (T1.setTop (mkF m 4 #[rv u0] [(.ref bv)])) _
    exact retOut X1 hx Bd.returns rfl (Or.inr (Or.inr (Or.inr (Or.inr ⟨rfl, rfl, rfl⟩)))) (hb hby d26_4) hr
  · show own_QP (some (.ref bv)) h0 n0 _ T1.heap _
    rw [e1]
    exact ⟨rfl, N0, rfl⟩

theorem ef_rmAL (m : MethodId) (x0 : Addr) : entryFrame m #[(.ref x0)] 1 = mkF m 0 #[rv x0] [] := by first | (simp [entryFrame, mkF, argsToLocals, Value.category]; done) | rfl
set_option maxRecDepth 65536 in
set_option maxHeartbeats 40000000 in
theorem rmAL (l : Launch) (Z : State) (a0 : Array Value) (hw : ∀ d ∈ tables_1, d.before a0 Z = true) (ws : List Jvm.Cond) (u0 : Addr) (cnt : Int32) (h0 : Heap) (n0 : Nat) (Z0 : n0 ≤ h0.size) (P_E_u0 : Exa Z h0 u0 "java/lang/StringBuilder") (P_F_u0_AbstractStringBuilder_count : Fld Z h0 u0 "java/lang/AbstractStringBuilder" "count" "I" (.int cnt)) :
    own_MF l own_y15 (Jvm.Cond.code own_y15 jdk_68_method_6_code 1 (some .int)) ws ({ frames := 0, cells := 0, slots := 0, locals := 0 } : Room) #[(.ref u0)] Z h0 (own_QP (some (.int cnt)) h0 n0) := by
  refine MetFree.of_bodySF (plainFor_of_name pn_28) hisR ?_
  intro p e s m args below meth c s₁ Bd hml0 hP hK
  obtain ⟨rfl, hZ, hh⟩ := hP
  have hx := Bd.exec
  have hby := Bd.bytes
  have hml : c.maxLocals = 1 := hml0
  have hown : s.vm.findClass "java/lang/AbstractStringBuilder" = some m.cls := findClass_of_methodNamed Bd.named
  have hnm := (name_of_methodNamed Bd.named Bd.method).1
  have X0 : Stand p l e ({ frames := 0, cells := 0, slots := 0, locals := 0 } : Room) s m #[(.ref u0)] below meth c s₁ [] 0 0 := Stand.of_body Bd
  have e0 : s₁.heap = h0 := by rw [← hh, Bd.state]; rfl
  have N0 := Fr.nil n0
  have pre0 : ∀ t, Steps p.tables e below (s₁.setTop (mkF m 0 #[rv u0] [])) t → Steps p.tables e below (s₁.setTop (entryFrame m #[(.ref u0)] 1)) t := fun t k => castTop (ef_rmAL m u0) k
  obtain ⟨T1, X1, e1, st1⟩ := getF X0 hx hZ hown (host := "") (Or.inl (own_g hw 90 rfl)) Via.refl e0 P_F_u0_AbstractStringBuilder_count (g := (mkF m 1 #[rv u0] [(.ref u0)])) rfl rfl (hb hby d28_1)
  obtain ⟨fs, hr, hrun, hended, hW, hsame⟩ := X1.leave (v := some (.int cnt)) (fun h => by rw [Bd.returns] at h; cases h)
  refine ⟨_, _, pre0 _ ?_, hrun, hended, _, _, rfl, ?_, ⟨_, rfl⟩, hW, hsame.mono (by decide) (by decide)⟩
  · refine XS.aloadN X0.here hx rfl (hb hby d28_0) rfl rfl ?_
    refine st1 _ ?_
    show Steps _ _ _ (T1.setTop (mkF m 4 #[rv u0] [(.int cnt)])) _
    exact retI X1 hx Bd.returns (hb hby d28_4) hr
  · show own_QP (some (.int cnt)) h0 n0 _ T1.heap _
    rw [e1]
    exact ⟨rfl, N0, rfl⟩

theorem ef_rmBL (m : MethodId) (x0 : Addr) : entryFrame m #[(.ref x0)] 1 = mkF m 0 #[rv x0] [] := by first | (simp [entryFrame, mkF, argsToLocals, Value.category]; done) | rfl
set_option maxRecDepth 65536 in
set_option maxHeartbeats 40000000 in
theorem rmBL (l : Launch) (Z : State) (a0 : Array Value) (hw : ∀ d ∈ tables_1, d.before a0 Z = true) (ws : List Jvm.Cond) (u0 : Addr) (cnt : Int32) (h0 : Heap) (n0 : Nat) (Z0 : n0 ≤ h0.size) (P_E_u0 : Exa Z h0 u0 "java/lang/StringBuilder") (P_F_u0_AbstractStringBuilder_count : Fld Z h0 u0 "java/lang/AbstractStringBuilder" "count" "I" (.int cnt)) :
    own_MF l own_y17 (Jvm.Cond.code own_y17 jdk_67_method_93_code 1 (some .int)) ws ({ frames := 1, cells := 0, slots := 0, locals := 12 } : Room) #[(.ref u0)] Z h0 (own_QP (some (.int cnt)) h0 n0) := by
  refine MetFree.of_bodySF (plainFor_of_name pn_27) hisR ?_
  intro p e s m args below meth c s₁ Bd hml0 hP hK
  obtain ⟨rfl, hZ, hh⟩ := hP
  have hx := Bd.exec
  have hby := Bd.bytes
  have hml : c.maxLocals = 1 := hml0
  have hown : s.vm.findClass "java/lang/StringBuilder" = some m.cls := findClass_of_methodNamed Bd.named
  have hnm := (name_of_methodNamed Bd.named Bd.method).1
  have X0 : Stand p l e ({ frames := 1, cells := 0, slots := 0, locals := 12 } : Room) s m #[(.ref u0)] below meth c s₁ [] 0 0 := Stand.of_body Bd
  have e0 : s₁.heap = h0 := by rw [← hh, Bd.state]; rfl
  have N0 := Fr.nil n0
  have pre0 : ∀ t, Steps p.tables e below (s₁.setTop (mkF m 0 #[rv u0] [])) t → Steps p.tables e below (s₁.setTop (entryFrame m #[(.ref u0)] 1)) t := fun t k => castTop (ef_rmBL m u0) k
  obtain ⟨_, _, ⟨T1, L1, k1, n1⟩, -, X1, ⟨Lc1, hQ1, l1, y1, z1⟩, st1⟩ := superBack X0 hx hZ (y := own_y15) hown (own_g hw 165 rfl) (own_same (y' := own_y16) (C := "java/lang/StringBuilder") (own_g hw 161 rfl) (own_g hw 166 rfl) (own_g hw 95 rfl) rfl (by decide)) (own_g hw 161 rfl) (own_g hw 77 rfl) (by decide) (backOf (W := 0) (rmAL l Z a0 hw [] u0 cnt h0 n0 Z0 P_E_u0 P_F_u0_AbstractStringBuilder_count) hZ (own_g hw 166 rfl) (own_g hw 59 rfl) (by decide) (by decide)) e0 (Ins.self P_E_u0) (g := (mkF m 1 #[rv u0] [(.ref u0)])) rfl (by rw [hml]; rfl) (own_g hw 166 rfl) (argsL := []) (rest := []) (lenOf pd___I rfl) rfl (by show 2 * 0 + _ ≤ _; exact Nat.le_of_eq rfl) (hb hby d27_1) (fun _ _ => ⟨rfl, e0, (by decide : 0 + 0 ≤ _), (by decide : 0 + 0 ≤ _)⟩)
  dsimp only [Pt.U, Pt.locs, Pt.cells, Pt.slots] at X1 l1 y1 z1 st1 hQ1
  subst l1 y1 z1
  obtain ⟨rfl, N1q, e1⟩ := hQ1
  have N1 := Fr.app N0 N1q
  obtain ⟨fs, hr, hrun, hended, hW, hsame⟩ := X1.leave (v := some (.int cnt)) (fun h => by rw [Bd.returns] at h; cases h)
  refine ⟨_, _, pre0 _ ?_, hrun, hended, _, _, rfl, ?_, ⟨_, rfl⟩, hW, hsame.mono (by decide) (by decide)⟩
  · refine XS.aloadN X0.here hx rfl (hb hby d27_0) rfl rfl ?_
    show Steps _ _ _ (s₁.setTop (mkF m 1 #[rv u0] [(.ref u0)])) _
    refine st1.trans ?_
    show Steps _ _ _ (T1.setTop (mkF m 4 #[rv u0] [(.int cnt)])) _
    exact retI X1 hx Bd.returns (hb hby d27_4) hr
  · show own_QP (some (.int cnt)) h0 n0 _ T1.heap _
    rw [e1]
    exact ⟨rfl, N1, rfl⟩

theorem ef_rmIL (m : MethodId) (x0 : Addr) : entryFrame m #[(.ref x0)] 1 = mkF m 0 #[rv x0] [] := by first | (simp [entryFrame, mkF, argsToLocals, Value.category]; done) | rfl
set_option maxRecDepth 65536 in
set_option maxHeartbeats 40000000 in
theorem rmIL (l : Launch) (Z : State) (a0 : Array Value) (hw : ∀ d ∈ tables_1, d.before a0 Z = true) (ws : List Jvm.Cond) (u0 : Addr) (zC : Int32) (h0 : Heap) (n0 : Nat) (Z0 : n0 ≤ h0.size) (P_E_u0 : Exa Z h0 u0 "java/lang/StringBuilder") (P_F_u0_AbstractStringBuilder_coder : Fld Z h0 u0 "java/lang/AbstractStringBuilder" "coder" "B" (.int (0 : Int32))) (P_S_String_COMPACT_STRINGS : Sta Z h0 "java/lang/String" "COMPACT_STRINGS" "Z" (.int zC)) (hz : ¬ (zC = (0 : Int32))) :
    own_MF l own_y18 (Jvm.Cond.code own_y18 jdk_68_method_68_code 1 (some .boolean)) ws ({ frames := 0, cells := 0, slots := 0, locals := 0 } : Room) #[(.ref u0)] Z h0 (own_QP (some (.int (1 : Int32))) h0 n0) := by
  refine MetFree.of_bodySF (plainFor_of_name pn_29) hisR ?_
  intro p e s m args below meth c s₁ Bd hml0 hP hK
  obtain ⟨rfl, hZ, hh⟩ := hP
  have hx := Bd.exec
  have hby := Bd.bytes
  have hml : c.maxLocals = 1 := hml0
  have hown : s.vm.findClass "java/lang/AbstractStringBuilder" = some m.cls := findClass_of_methodNamed Bd.named
  have hnm := (name_of_methodNamed Bd.named Bd.method).1
  have X0 : Stand p l e ({ frames := 0, cells := 0, slots := 0, locals := 0 } : Room) s m #[(.ref u0)] below meth c s₁ [] 0 0 := Stand.of_body Bd
  have e0 : s₁.heap = h0 := by rw [← hh, Bd.state]; rfl
  have N0 := Fr.nil n0
  have pre0 : ∀ t, Steps p.tables e below (s₁.setTop (mkF m 0 #[rv u0] [])) t → Steps p.tables e below (s₁.setTop (entryFrame m #[(.ref u0)] 1)) t := fun t k => castTop (ef_rmIL m u0) k
  obtain ⟨T1, X1, e1, st1⟩ := getS2 X0 hx hZ hown (host := "") (Or.inl (own_g hw 62 rfl)) Via.refl e0 P_S_String_COMPACT_STRINGS (g := (mkF m 0 #[rv u0] [])) rfl (hb hby d29_0)
  obtain ⟨T2, X2, e2, st2⟩ := getF X1 hx hZ hown (host := "") (Or.inl (own_g hw 65 rfl)) Via.refl e1 P_F_u0_AbstractStringBuilder_coder (g := (mkF m 7 #[rv u0] [(.ref u0)])) rfl rfl (hb hby d29_7)
  obtain ⟨fs, hr, hrun, hended, hW, hsame⟩ := X2.leave (v := some (.int (1 : Int32))) (fun h => by rw [Bd.returns] at h; cases h)
  refine ⟨_, _, pre0 _ ?_, hrun, hended, _, _, rfl, ?_, ⟨_, rfl⟩, hW, hsame.mono (by decide) (by decide)⟩
  · refine st1 _ ?_
    refine XS.ifNo X1.here hx rfl (hb hby d29_3) rfl ((if0 _ _).trans (feq hz).1) ?_
    refine XS.aloadN X1.here hx rfl (hb hby d29_6) rfl rfl ?_
    refine st2 _ ?_
    refine XS.ifNo X2.here hx rfl (hb hby d29_10) rfl ((if0 _ _).trans (teq (by decide : (0 : Int32) = (0 : Int32))).2) ?_
    refine XS.iconst X2.here hx rfl (hb hby d29_13) ?_
    refine XS.goto X2.here hx rfl (pc0 := 14) (pc' := 18) rfl (hb hby d29_14) (by decide) (by decide) ?_
    show Steps _ _ _ (T2.setTop (mkF m 18 #[rv u0] [(.int (1 : Int32))])) _
    exact retN X2 hx (t := .boolean) Bd.returns (by simp) (hb hby d29_18) hr
  · show own_QP (some (.int (1 : Int32))) h0 n0 _ T2.heap _
    rw [e2]
    exact ⟨rfl, N0, rfl⟩

theorem ef_rmNL (m : MethodId) (x0 : Int32) (x1 : Int32) (x2 : Int32) : entryFrame m #[(.int x0), (.int x1), (.int x2)] 4 = mkF m 0 #[iv x0, iv x1, iv x2, .unset] [] := by first | (simp [entryFrame, mkF, argsToLocals, Value.category]; done) | rfl
set_option maxRecDepth 65536 in
set_option maxHeartbeats 40000000 in
theorem rmNL (l : Launch) (Z : State) (a0 : Array Value) (hw : ∀ d ∈ tables_1, d.before a0 Z = true) (ws : List Jvm.Cond) (p1 : Int32) (h0 : Heap) (n0 : Nat) (Z0 : n0 ≤ h0.size) (wm : own_max p1 (18 : Int32) = (18 : Int32)) :
    own_MF l own_y19 (Jvm.Cond.code own_y19 jdk_48_method_27_code 4 (some .int)) ws ({ frames := 1, cells := 0, slots := 0, locals := 14 } : Room) #[(.int (16 : Int32)), (.int p1), (.int (18 : Int32))] Z h0 (own_QP (some (.int (34 : Int32))) h0 n0) := by
  refine MetFree.of_bodySF (plainFor_of_name pn_19) hisR ?_
  intro p e s m args below meth c s₁ Bd hml0 hP hK
  obtain ⟨rfl, hZ, hh⟩ := hP
  have hx := Bd.exec
  have hby := Bd.bytes
  have hml : c.maxLocals = 4 := hml0
  have hown : s.vm.findClass "jdk/internal/util/ArraysSupport" = some m.cls := findClass_of_methodNamed Bd.named
  have hnm := (name_of_methodNamed Bd.named Bd.method).1
  have X0 : Stand p l e ({ frames := 1, cells := 0, slots := 0, locals := 14 } : Room) s m #[(.int (16 : Int32)), (.int p1), (.int (18 : Int32))] below meth c s₁ [] 0 0 := Stand.of_body Bd
  have e0 : s₁.heap = h0 := by rw [← hh, Bd.state]; rfl
  have N0 := Fr.nil n0
  have pre0 : ∀ t, Steps p.tables e below (s₁.setTop (mkF m 0 #[iv (16 : Int32), iv p1, iv (18 : Int32), .unset] [])) t → Steps p.tables e below (s₁.setTop (entryFrame m #[(.int (16 : Int32)), (.int p1), (.int (18 : Int32))] 4)) t := fun t k => castTop (ef_rmNL m (16 : Int32) p1 (18 : Int32)) k
  obtain ⟨_, _, ⟨T1, L1, k1, n1⟩, -, X1, ⟨Lc1, hQ1, l1, y1, z1⟩, st1⟩ := Jvm.LawKit.callS X0 hx (y := own_y3) hown (mvT hZ (own_g hw 128 rfl)) (mvT hZ (own_g hw 129 rfl)) (mvT hZ (own_g hw 130 rfl)) (mvT hZ (own_g hw 131 rfl)) (by decide) (backOf (W := 1) (rmMx l Z a0 hw [] p1 (18 : Int32) h0 n0 Z0 ) hZ (own_g hw 131 rfl) (own_g hw 130 rfl) (by decide) (by decide)) (g := (mkF m 3 #[iv (16 : Int32), iv p1, iv (18 : Int32), .unset] [(.int (18 : Int32)), (.int p1), (.int (16 : Int32))])) rfl (by rw [hml]; rfl) (argsL := [(.int p1), (.int (18 : Int32))]) (rest := [(.int (16 : Int32))]) (lenOf pd__II_I rfl) rfl (by show 2 * 0 + _ ≤ _; exact Nat.le_of_eq rfl) (hb hby d19_3) (fun _ _ => ⟨rfl, e0, (by decide : 0 + 0 ≤ _), (by decide : 0 + 0 ≤ _)⟩)
  dsimp only [Pt.U, Pt.locs, Pt.cells, Pt.slots] at X1 l1 y1 z1 st1 hQ1
  subst l1 y1 z1
  obtain ⟨rfl, N1q, e1⟩ := hQ1
  have N1 := Fr.app N0 N1q
  have pre2 : ∀ t, Steps p.tables e below (T1.setTop (mkF m 6 #[iv (16 : Int32), iv p1, iv (18 : Int32), .unset] [(.int (own_max p1 (18 : Int32))), (.int (16 : Int32))])) t → Steps p.tables e below (s₁.setTop (entryFrame m #[(.int (16 : Int32)), (.int p1), (.int (18 : Int32))] 4)) t := fun t kt => pre0 t (by
   refine XS.iloadN X0.here hx rfl (hb hby d19_0) rfl ?_
   refine XS.iloadN X0.here hx rfl (hb hby d19_1) rfl ?_
   refine XS.iloadN X0.here hx rfl (hb hby d19_2) rfl ?_
   show Steps _ _ _ (s₁.setTop (mkF m 3 #[iv (16 : Int32), iv p1, iv (18 : Int32), .unset] [(.int (18 : Int32)), (.int p1), (.int (16 : Int32))])) _
   refine st1 _ ?_
   exact kt)
  rw [wm] at pre2
  obtain ⟨fs, hr, hrun, hended, hW, hsame⟩ := X1.leave (v := some (.int (34 : Int32))) (fun h => by rw [Bd.returns] at h; cases h)
  refine ⟨_, _, pre2 _ ?_, hrun, hended, _, _, rfl, ?_, ⟨_, rfl⟩, hW, hsame.mono (by decide) (by decide)⟩
  · refine XS.iadd X1.here hx rfl (hb hby d19_6) rfl ?_
    refine XS.istoreN X1.here hx rfl (hb hby d19_7) rfl (l' := #[iv (16 : Int32), iv p1, iv (18 : Int32), iv (34 : Int32)]) rfl ?_
    refine XS.iconst X1.here hx rfl (hb hby d19_8) ?_
    refine XS.iloadN X1.here hx rfl (hb hby d19_9) rfl ?_
    refine XS.icmpNo X1.here hx rfl (hb hby d19_10) rfl (tlt (by decide : (0 : Int32) < (34 : Int32))).2.1 ?_
    refine XS.iloadN X1.here hx rfl (hb hby d19_13) rfl ?_
    refine X1.ldcInt hx hown (mvT hZ (own_g hw 132 rfl)) (g := (mkF m 14 #[iv (16 : Int32), iv p1, iv (18 : Int32), iv (34 : Int32)] [(.int (34 : Int32))])) rfl (hb hby d19_14) _ ?_
    refine XS.icmpNo X1.here hx rfl (hb hby d19_16) rfl (flt (by decide : ¬ ((2147483639 : Int32) < (34 : Int32)))).2.2.1 ?_
    refine XS.iloadN X1.here hx rfl (hb hby d19_19) rfl ?_
    show Steps _ _ _ (T1.setTop (mkF m 20 #[iv (16 : Int32), iv p1, iv (18 : Int32), iv (34 : Int32)] [(.int (34 : Int32))])) _
    exact retI X1 hx Bd.returns (hb hby d19_20) hr
  · show own_QP (some (.int (34 : Int32))) h0 n0 _ T1.heap _
    rw [e1]
    exact ⟨rfl, N1, rfl⟩

theorem ef_rmNC (m : MethodId) (x0 : Addr) (x1 : Int32) : entryFrame m #[(.ref x0), (.int x1)] 6 = mkF m 0 #[rv x0, iv x1, .unset, .unset, .unset, .unset] [] := by first | (simp [entryFrame, mkF, argsToLocals, Value.category]; done) | rfl
set_option maxRecDepth 65536 in
set_option maxHeartbeats 40000000 in
theorem rmNC (l : Launch) (Z : State) (a0 : Array Value) (hw : ∀ d ∈ tables_1, d.before a0 Z = true) (ws : List Jvm.Cond) (u0 : Addr) (p1 : Int32) (bv : Addr) (kb : ClassId) (bs : List Value) (h0 : Heap) (n0 : Nat) (Z0 : n0 ≤ h0.size) (P_E_u0 : Exa Z h0 u0 "java/lang/StringBuilder") (P_F_u0_AbstractStringBuilder_value : Fld Z h0 u0 "java/lang/AbstractStringBuilder" "value" "[B" (.ref bv)) (P_F_u0_AbstractStringBuilder_coder : Fld Z h0 u0 "java/lang/AbstractStringBuilder" "coder" "B" (.int (0 : Int32))) (P_G_bv : Arv Z h0 bv kb .byte (16 : Int32) bs (.int 0)) (wm : own_max (p1 - (16 : Int32)) (18 : Int32) = (18 : Int32)) :
    own_MF l own_y20 (Jvm.Cond.code own_y20 jdk_68_method_10_code 6 (some .int)) ws ({ frames := 2, cells := 0, slots := 0, locals := 29 } : Room) #[(.ref u0), (.int p1)] Z h0 (own_QP (some (.int (34 : Int32))) h0 n0) := by
  refine MetFree.of_bodySF (plainFor_of_name pn_18) hisR ?_
  intro p e s m args below meth c s₁ Bd hml0 hP hK
  obtain ⟨rfl, hZ, hh⟩ := hP
  have hx := Bd.exec
  have hby := Bd.bytes
  have hml : c.maxLocals = 6 := hml0
  have hown : s.vm.findClass "java/lang/AbstractStringBuilder" = some m.cls := findClass_of_methodNamed Bd.named
  have hnm := (name_of_methodNamed Bd.named Bd.method).1
  have X0 : Stand p l e ({ frames := 2, cells := 0, slots := 0, locals := 29 } : Room) s m #[(.ref u0), (.int p1)] below meth c s₁ [] 0 0 := Stand.of_body Bd
  have e0 : s₁.heap = h0 := by rw [← hh, Bd.state]; rfl
  have N0 := Fr.nil n0
  have pre0 : ∀ t, Steps p.tables e below (s₁.setTop (mkF m 0 #[rv u0, iv p1, .unset, .unset, .unset, .unset] [])) t → Steps p.tables e below (s₁.setTop (entryFrame m #[(.ref u0), (.int p1)] 6)) t := fun t k => castTop (ef_rmNC m u0 p1) k
  obtain ⟨T1, X1, e1, st1⟩ := getF X0 hx hZ hown (host := "") (Or.inl (own_g hw 63 rfl)) Via.refl e0 P_F_u0_AbstractStringBuilder_value (g := (mkF m 1 #[rv u0, iv p1, .unset, .unset, .unset, .unset] [(.ref u0)])) rfl rfl (hb hby d18_1)
  obtain ⟨cl2, Ar2, qq2, S2, N2_, H2, G2⟩ := id P_G_bv
  obtain ⟨T3, X3, e3, st3⟩ := getF X1 hx hZ hown (host := "") (Or.inl (own_g hw 65 rfl)) Via.refl e1 P_F_u0_AbstractStringBuilder_coder (g := (mkF m 8 #[rv u0, iv p1, iv (16 : Int32), .unset, .unset, .unset] [(.ref u0), (.int p1)])) rfl rfl (hb hby d18_8)
  obtain ⟨T4, X4, e4, st4⟩ := getF X3 hx hZ hown (host := "") (Or.inl (own_g hw 65 rfl)) Via.refl e3 P_F_u0_AbstractStringBuilder_coder (g := (mkF m 24 #[rv u0, iv p1, iv (16 : Int32), iv p1, iv (p1 - (16 : Int32)), .unset] [(.ref u0), (.int (2 : Int32)), (.int (16 : Int32)), (.int (p1 - (16 : Int32))), (.int (16 : Int32))])) rfl rfl (hb hby d18_24)
  obtain ⟨_, _, ⟨T5, L5, k5, n5⟩, -, X5, ⟨Lc5, hQ5, l5, y5, z5⟩, st5⟩ := Jvm.LawKit.callS X4 hx (y := own_y19) hown (mvT hZ (own_g hw 124 rfl)) (mvT hZ (own_g hw 125 rfl)) (mvT hZ (own_g hw 126 rfl)) (mvT hZ (own_g hw 127 rfl)) (by decide) (backOf (W := 0) (rmNL l Z a0 hw [] (p1 - (16 : Int32)) h0 n0 Z0 wm) hZ (own_g hw 127 rfl) (own_g hw 126 rfl) (by decide) (by decide)) (g := (mkF m 29 #[rv u0, iv p1, iv (16 : Int32), iv p1, iv (p1 - (16 : Int32)), .unset] [(.int (18 : Int32)), (.int (p1 - (16 : Int32))), (.int (16 : Int32))])) rfl (by rw [hml]; rfl) (argsL := [(.int (16 : Int32)), (.int (p1 - (16 : Int32))), (.int (18 : Int32))]) (rest := []) (lenOf pd__III_I rfl) rfl (by show 2 * 0 + _ ≤ _; exact Nat.le_of_eq rfl) (hb hby d18_29) (fun _ _ => ⟨rfl, e4, (by decide : 0 + 0 ≤ _), (by decide : 0 + 0 ≤ _)⟩)
  dsimp only [Pt.U, Pt.locs, Pt.cells, Pt.slots] at X5 l5 y5 z5 st5 hQ5
  subst l5 y5 z5
  obtain ⟨rfl, N5q, e5⟩ := hQ5
  have N5 := Fr.app N0 N5q
  obtain ⟨T6, X6, e6, st6⟩ := getF X5 hx hZ hown (host := "") (Or.inl (own_g hw 65 rfl)) Via.refl e5 P_F_u0_AbstractStringBuilder_coder (g := (mkF m 54 #[rv u0, iv p1, iv (16 : Int32), iv p1, iv (p1 - (16 : Int32)), iv (34 : Int32)] [(.ref u0), (.int (34 : Int32))])) rfl rfl (hb hby d18_54)
  obtain ⟨fs, hr, hrun, hended, hW, hsame⟩ := X6.leave (v := some (.int (34 : Int32))) (fun h => by rw [Bd.returns] at h; cases h)
  refine ⟨_, _, pre0 _ ?_, hrun, hended, _, _, rfl, ?_, ⟨_, rfl⟩, hW, hsame.mono (by decide) (by decide)⟩
  · refine XS.aloadN X0.here hx rfl (hb hby d18_0) rfl rfl ?_
    refine st1 _ ?_
    refine X1.arraylength hx (by rw [e1]; exact Ar2.1) (State.isArrayOf_alike hZ.alike Ar2.2.1) (g := (mkF m 4 #[rv u0, iv p1, .unset, .unset, .unset, .unset] [(.ref bv)])) rfl rfl (hb hby d18_4) _ ?_
    rw [len_of S2 N2_]
    refine XS.istoreN X1.here hx rfl (hb hby d18_5) rfl (l' := #[rv u0, iv p1, iv (16 : Int32), .unset, .unset, .unset]) rfl ?_
    refine XS.iloadN X1.here hx rfl (hb hby d18_6) rfl ?_
    refine XS.aloadN X1.here hx rfl (hb hby d18_7) rfl rfl ?_
    refine st3 _ ?_
    refine XS.ishl X3.here hx rfl (hb hby d18_11) rfl ?_
    show Steps _ _ _ (T3.setTop (mkF m 12 #[rv u0, iv p1, iv (16 : Int32), .unset, .unset, .unset] [(.int (p1 <<< ((0 : Int32) &&& 31)))])) _
    rw [own_shl0 p1]
    refine XS.istoreN X3.here hx rfl (hb hby d18_12) rfl (l' := #[rv u0, iv p1, iv (16 : Int32), iv p1, .unset, .unset]) rfl ?_
    refine XS.iloadN X3.here hx rfl (hb hby d18_13) rfl ?_
    refine XS.iloadN X3.here hx rfl (hb hby d18_14) rfl ?_
    refine XS.isub X3.here hx rfl (hb hby d18_15) rfl ?_
    refine XS.istore X3.here hx rfl (hb hby d18_16) rfl (l' := #[rv u0, iv p1, iv (16 : Int32), iv p1, iv (p1 - (16 : Int32)), .unset]) rfl ?_
    refine XS.iloadN X3.here hx rfl (hb hby d18_18) rfl ?_
    refine XS.iload X3.here hx rfl (hb hby d18_19) rfl ?_
    refine XS.iloadN X3.here hx rfl (hb hby d18_21) rfl ?_
    refine XS.iconst X3.here hx rfl (hb hby d18_22) ?_
    refine XS.aloadN X3.here hx rfl (hb hby d18_23) rfl rfl ?_
    refine st4 _ ?_
    refine XS.ishl X4.here hx rfl (hb hby d18_27) rfl ?_
    show Steps _ _ _ (T4.setTop (mkF m 28 #[rv u0, iv p1, iv (16 : Int32), iv p1, iv (p1 - (16 : Int32)), .unset] [(.int ((2 : Int32) <<< ((0 : Int32) &&& 31))), (.int (16 : Int32)), (.int (p1 - (16 : Int32))), (.int (16 : Int32))])) _
    rw [(by decide : ((2 : Int32) <<< ((0 : Int32) &&& 31)) = (2 : Int32))]
    refine XS.iadd X4.here hx rfl (hb hby d18_28) rfl ?_
    show Steps _ _ _ (T4.setTop (mkF m 29 #[rv u0, iv p1, iv (16 : Int32), iv p1, iv (p1 - (16 : Int32)), .unset] [(.int (18 : Int32)), (.int (p1 - (16 : Int32))), (.int (16 : Int32))])) _
    refine st5 _ ?_
    refine XS.istore X5.here hx rfl (hb hby d18_32) rfl (l' := #[rv u0, iv p1, iv (16 : Int32), iv p1, iv (p1 - (16 : Int32)), iv (34 : Int32)]) rfl ?_
    refine XS.iload X5.here hx rfl (hb hby d18_34) rfl ?_
    show Steps _ _ _ (T5.setTop (mkF m 36 #[rv u0, iv p1, iv (16 : Int32), iv p1, iv (p1 - (16 : Int32)), iv (34 : Int32)] [(.int (34 : Int32))])) _
    refine X5.ldcInt hx hown (mvT hZ (own_g hw 133 rfl)) (g := (mkF m 36 #[rv u0, iv p1, iv (16 : Int32), iv p1, iv (p1 - (16 : Int32)), iv (34 : Int32)] [(.int (34 : Int32))])) rfl (hb hby d18_36) _ ?_
    refine XS.icmpYes X5.here hx rfl (pc0 := 38) (pc' := 51) rfl (hb hby d18_38) rfl (feq (by decide : ¬ ((34 : Int32) = (2147483647 : Int32)))).2 (by decide) (by decide) ?_
    refine XS.iload X5.here hx rfl (hb hby d18_51) rfl ?_
    refine XS.aloadN X5.here hx rfl (hb hby d18_53) rfl rfl ?_
    refine st6 _ ?_
    refine XS.ishr X6.here hx rfl (hb hby d18_57) rfl ?_
    show Steps _ _ _ (T6.setTop (mkF m 58 #[rv u0, iv p1, iv (16 : Int32), iv p1, iv (p1 - (16 : Int32)), iv (34 : Int32)] [(.int ((34 : Int32) >>> ((0 : Int32) &&& 31)))])) _
    rw [(by decide : ((34 : Int32) >>> ((0 : Int32) &&& 31)) = (34 : Int32))]
    show Steps _ _ _ (T6.setTop (mkF m 58 #[rv u0, iv p1, iv (16 : Int32), iv p1, iv (p1 - (16 : Int32)), iv (34 : Int32)] [(.int (34 : Int32))])) _
    exact retI X6 hx Bd.returns (hb hby d18_58) hr
  · show own_QP (some (.int (34 : Int32))) h0 n0 _ T6.heap _
    rw [e6]
    exact ⟨rfl, N5, rfl⟩

theorem ef_rmCO (m : MethodId) (x0 : Addr) (x1 : Int32) : entryFrame m #[(.ref x0), (.int x1)] 3 = mkF m 0 #[rv x0, iv x1, .unset] [] := by first | (simp [entryFrame, mkF, argsToLocals, Value.category]; done) | rfl
def Q_rmCO (Z : State) (u0 : Addr) (kt : ClassId) (vs : List Value) (xl : List Int32) (h0 : Heap) (n0 : Nat) (v : Option Value) (h : Heap) (L : List Loc) : Prop := ∃ (yv : Addr), ∃ (ky : ClassId), ∃ (ys : List Value), (v = (some (.ref yv)) ∧ Fr n0 L ∧ Keep h0 h [] ∧ h0.size ≤ yv ∧ Exa Z h yv "[B" ∧ Arv Z h yv ky .byte (34 : Int32) ys (.int 0) ∧ (own_has ys xl ∧ own_cap (34 : Int32) ys))
set_option maxRecDepth 65536 in
set_option maxHeartbeats 40000000 in
theorem rmCO (l : Launch) (Z : State) (a0 : Array Value) (hw : ∀ d ∈ tables_1, d.before a0 Z = true) (ws : List Jvm.Cond) (u0 : Addr) (kt : ClassId) (vs : List Value) (xl : List Int32) (h0 : Heap) (n0 : Nat) (Z0 : n0 ≤ h0.size) (P_G_u0 : Arv Z h0 u0 kt .byte (16 : Int32) vs (.int 0)) (wh : own_has vs xl) (w16 : xl.length ≤ 16) :
    own_MF l own_y21 (Jvm.Cond.code own_y21 jdk_65_method_121_code 3 (some (.array .byte))) ws ({ frames := 1, cells := 1, slots := 34, locals := 18 } : Room) #[(.ref u0), (.int (34 : Int32))] Z h0 (Q_rmCO Z u0 kt vs xl h0 n0) := by
  refine MetFree.of_bodySF (plainFor_of_name pn_21) hisR ?_
  intro p e s m args below meth c s₁ Bd hml0 hP hK
  obtain ⟨rfl, hZ, hh⟩ := hP
  have hx := Bd.exec
  have hby := Bd.bytes
  have hml : c.maxLocals = 3 := hml0
  have hown : s.vm.findClass "java/util/Arrays" = some m.cls := findClass_of_methodNamed Bd.named
  have hnm := (name_of_methodNamed Bd.named Bd.method).1
  have X0 : Stand p l e ({ frames := 1, cells := 1, slots := 34, locals := 18 } : Room) s m #[(.ref u0), (.int (34 : Int32))] below meth c s₁ [] 0 0 := Stand.of_body Bd
  have e0 : s₁.heap = h0 := by rw [← hh, Bd.state]; rfl
  have N0 := Fr.nil n0
  have pre0 : ∀ t, Steps p.tables e below (s₁.setTop (mkF m 0 #[rv u0, iv (34 : Int32), .unset] [])) t → Steps p.tables e below (s₁.setTop (entryFrame m #[(.ref u0), (.int (34 : Int32))] 3)) t := fun t k => castTop (ef_rmCO m u0 (34 : Int32)) k
  obtain ⟨cl1, Ar1, qq1, S1, N1_, H1, G1⟩ := id P_G_u0
  obtain ⟨T2, h2, k2, X2, e2, E2, A2, Q2, st2⟩ := newPE X0 hx hZ (own_g hw 31 rfl) e0 (g := (mkF m 15 #[rv u0, iv (34 : Int32), .unset] [(.int (34 : Int32))])) rfl (hb hby d21_15) rfl (by decide) (cap := 34) (by decide) (by decide) (by decide) (by decide) (ad := "[B") rfl
  obtain ⟨b2, g2⟩ : ∃ z, z = h0.size := ⟨_, rfl⟩
  rw [← g2] at A2 st2 Q2
  have ne3 : u0 ≠ b2 := Nat.ne_of_lt (Nat.lt_of_lt_of_le P_G_u0.lt (Nat.le_of_eq g2.symm))
  have o2 : n0 ≤ b2 := Nat.le_trans Z0 (Nat.le_of_eq g2.symm)
  have z2 : h0.size ≤ b2 := Nat.le_trans (Keep.refl h0 []).1 (Nat.le_of_eq g2.symm)
  have K2 : Keep h0 h2 [] := (Keep.refl h0 []).ext E2
  have V2 : Arv Z h2 b2 k2 .byte (34 : Int32) [(.int (0 : Int32)), (.int (0 : Int32)), (.int (0 : Int32)), (.int (0 : Int32)), (.int (0 : Int32)), (.int (0 : Int32)), (.int (0 : Int32)), (.int (0 : Int32)), (.int (0 : Int32)), (.int (0 : Int32)), (.int (0 : Int32)), (.int (0 : Int32)), (.int (0 : Int32)), (.int (0 : Int32)), (.int (0 : Int32)), (.int (0 : Int32)), (.int (0 : Int32)), (.int (0 : Int32)), (.int (0 : Int32)), (.int (0 : Int32)), (.int (0 : Int32)), (.int (0 : Int32)), (.int (0 : Int32)), (.int (0 : Int32)), (.int (0 : Int32)), (.int (0 : Int32)), (.int (0 : Int32)), (.int (0 : Int32)), (.int (0 : Int32)), (.int (0 : Int32)), (.int (0 : Int32)), (.int (0 : Int32)), (.int (0 : Int32)), (.int (0 : Int32))] (.int (0 : Int32)) := (Arv.new A2 (by decide)).pad (pad_rep [] (.int (0 : Int32)) 34)
  have f4 := (P_G_u0.ext E2)
  obtain ⟨cl5, Ar5, qq5, S5, N5_, H5, G5⟩ := id f4
  have f6 := (Nat.le_trans Z0 E2.1)
  obtain ⟨_, _, ⟨T7, L7, k7, n7⟩, -, X7, ⟨Lc7, hQ7, l7, y7, z7⟩, st7⟩ := Jvm.LawKit.callS X2 hx (y := own_y4) hown (mvT hZ (own_g hw 138 rfl)) (mvT hZ (own_g hw 139 rfl)) (mvT hZ (own_g hw 130 rfl)) (mvT hZ (own_g hw 140 rfl)) (by decide) (backOf (W := 4) (rmMi l Z a0 hw [] (16 : Int32) (34 : Int32) h2 n0 f6 ) hZ (own_g hw 140 rfl) (own_g hw 130 rfl) (by decide) (by decide)) (g := (mkF m 25 #[rv u0, iv (34 : Int32), rv b2] [(.int (34 : Int32)), (.int (16 : Int32)), (.int (0 : Int32)), (.ref b2), (.int (0 : Int32)), (.ref u0)])) rfl (by rw [hml]; rfl) (argsL := [(.int (16 : Int32)), (.int (34 : Int32))]) (rest := [(.int (0 : Int32)), (.ref b2), (.int (0 : Int32)), (.ref u0)]) (lenOf pd__II_I rfl) rfl (by show 2 * 0 + _ ≤ _; exact Nat.le_of_eq rfl) (hb hby d21_25) (fun _ _ => ⟨rfl, e2, (by decide : 1 + 0 ≤ _), (by decide : 34 + 0 ≤ _)⟩)
  dsimp only [Pt.U, Pt.locs, Pt.cells, Pt.slots] at X7 l7 y7 z7 st7 hQ7
  subst l7 y7 z7
  obtain ⟨rfl, N7q, e7⟩ := hQ7
  have N7 := Fr.app N0 N7q
  have pre8 : ∀ t, Steps p.tables e below (T7.setTop (mkF m 28 #[rv u0, iv (34 : Int32), rv b2] [(.int (own_min (16 : Int32) (34 : Int32))), (.int (0 : Int32)), (.ref b2), (.int (0 : Int32)), (.ref u0)])) t → Steps p.tables e below (s₁.setTop (entryFrame m #[(.ref u0), (.int (34 : Int32))] 3)) t := fun t kt => pre0 t (by
   refine XS.iloadN X0.here hx rfl (hb hby d21_0) rfl ?_
   refine XS.aloadN X0.here hx rfl (hb hby d21_1) rfl rfl ?_
   refine X0.arraylength hx (by rw [e0]; exact Ar1.1) (State.isArrayOf_alike hZ.alike Ar1.2.1) (g := (mkF m 2 #[rv u0, iv (34 : Int32), .unset] [(.ref u0), (.int (34 : Int32))])) rfl rfl (hb hby d21_2) _ ?_
   rw [len_of S1 N1_]
   refine XS.icmpYes X0.here hx rfl (pc0 := 3) (pc' := 14) rfl (hb hby d21_3) rfl (feq (by decide : ¬ ((34 : Int32) = (16 : Int32)))).2 (by decide) (by decide) ?_
   refine XS.iloadN X0.here hx rfl (hb hby d21_14) rfl ?_
   refine st2 _ ?_
   refine XS.astoreN X2.here hx rfl (hb hby d21_17) rfl rfl (l' := #[rv u0, iv (34 : Int32), rv b2]) rfl ?_
   refine XS.aloadN X2.here hx rfl (hb hby d21_18) rfl rfl ?_
   refine XS.iconst X2.here hx rfl (hb hby d21_19) ?_
   refine XS.aloadN X2.here hx rfl (hb hby d21_20) rfl rfl ?_
   refine XS.iconst X2.here hx rfl (hb hby d21_21) ?_
   refine XS.aloadN X2.here hx rfl (hb hby d21_22) rfl rfl ?_
   refine X2.arraylength hx (by rw [e2]; exact Ar5.1) (State.isArrayOf_alike hZ.alike Ar5.2.1) (g := (mkF m 23 #[rv u0, iv (34 : Int32), rv b2] [(.ref u0), (.int (0 : Int32)), (.ref b2), (.int (0 : Int32)), (.ref u0)])) rfl rfl (hb hby d21_23) _ ?_
   rw [len_of S5 N5_]
   refine XS.iloadN X2.here hx rfl (hb hby d21_24) rfl ?_
   show Steps _ _ _ (T2.setTop (mkF m 25 #[rv u0, iv (34 : Int32), rv b2] [(.int (34 : Int32)), (.int (16 : Int32)), (.int (0 : Int32)), (.ref b2), (.int (0 : Int32)), (.ref u0)])) _
   refine st7 _ ?_
   exact kt)
  rw [(rfl : own_min (16 : Int32) (34 : Int32) = (16 : Int32))] at pre8
  obtain ⟨T9, h9, L9, X9, e9, N9, K9, V9_, st9⟩ := cpA X7 hx hZ hown (own_g hw 141 rfl) (own_g hw 116 rfl) (own_g hw 114 rfl) (own_g hw 115 rfl) e7 f4 V2  (Or.inl ⟨rfl, rfl⟩) (sp := (0 : Int32)) (dp := (0 : Int32)) (nn := (16 : Int32)) (by decide) (by decide) (by decide) (by decide) (by decide) rfl (Nat.le_of_ble_eq_true rfl) N7 o2 (g := (mkF m 28 #[rv u0, iv (34 : Int32), rv b2] [(.int (16 : Int32)), (.int (0 : Int32)), (.ref b2), (.int (0 : Int32)), (.ref u0)])) rfl (by rw [hml]; rfl) rfl (hb hby d21_28) (by decide) (W := 0) (by show 2 * 0 + _ ≤ _; exact Nat.le_of_eq rfl) (by decide)
  have KK9 : Keep h0 h9 [] := Keep.trans K2 K9 (allS (Or.inr z2) all0)
  obtain ⟨vx9, V9, hvx9⟩ : ∃ vx, Arv Z h9 b2 k2 .byte (34 : Int32) vx (.int 0) ∧ vx = ([(.int (0 : Int32)), (.int (0 : Int32)), (.int (0 : Int32)), (.int (0 : Int32)), (.int (0 : Int32)), (.int (0 : Int32)), (.int (0 : Int32)), (.int (0 : Int32)), (.int (0 : Int32)), (.int (0 : Int32)), (.int (0 : Int32)), (.int (0 : Int32)), (.int (0 : Int32)), (.int (0 : Int32)), (.int (0 : Int32)), (.int (0 : Int32)), (.int (0 : Int32)), (.int (0 : Int32)), (.int (0 : Int32)), (.int (0 : Int32)), (.int (0 : Int32)), (.int (0 : Int32)), (.int (0 : Int32)), (.int (0 : Int32)), (.int (0 : Int32)), (.int (0 : Int32)), (.int (0 : Int32)), (.int (0 : Int32)), (.int (0 : Int32)), (.int (0 : Int32)), (.int (0 : Int32)), (.int (0 : Int32)), (.int (0 : Int32)), (.int (0 : Int32))]).take ((0 : Int32)).toNatClampNeg ++ (List.range ((16 : Int32)).toNatClampNeg).map (fun i => (vs).getD (((0 : Int32)).toNatClampNeg + i) (.int 0)) ++ ([(.int (0 : Int32)), (.int (0 : Int32)), (.int (0 : Int32)), (.int (0 : Int32)), (.int (0 : Int32)), (.int (0 : Int32)), (.int (0 : Int32)), (.int (0 : Int32)), (.int (0 : Int32)), (.int (0 : Int32)), (.int (0 : Int32)), (.int (0 : Int32)), (.int (0 : Int32)), (.int (0 : Int32)), (.int (0 : Int32)), (.int (0 : Int32)), (.int (0 : Int32)), (.int (0 : Int32)), (.int (0 : Int32)), (.int (0 : Int32)), (.int (0 : Int32)), (.int (0 : Int32)), (.int (0 : Int32)), (.int (0 : Int32)), (.int (0 : Int32)), (.int (0 : Int32)), (.int (0 : Int32)), (.int (0 : Int32)), (.int (0 : Int32)), (.int (0 : Int32)), (.int (0 : Int32)), (.int (0 : Int32)), (.int (0 : Int32)), (.int (0 : Int32))]).drop (((0 : Int32)).toNatClampNeg + ((16 : Int32)).toNatClampNeg) := ⟨_, V9_, rfl⟩
  obtain ⟨fs, hr, hrun, hended, hW, hsame⟩ := X9.leave (v := some (.ref b2)) (fun h => by rw [Bd.returns] at h; cases h)
  have f10 := (Q2.keep K9)
  refine ⟨_, _, pre8 _ ?_, hrun, hended, _, _, rfl, ?_, ⟨_, rfl⟩, hW, hsame.mono (by decide) (by decide)⟩
  · show Steps _ _ _ (T7.setTop (mkF m 28 #[rv u0, iv (34 : Int32), rv b2] [(.int (16 : Int32)), (.int (0 : Int32)), (.ref b2), (.int (0 : Int32)), (.ref u0)])) _
    refine st9 _ ?_
    refine XS.aloadN X9.here hx rfl (hb hby d21_31) rfl rfl ?_
    show Steps _ _ _ (T9.setTop (mkF m 32 #[rv u0, iv (34 : Int32), rv b2] [(.ref b2)])) _
    exact retOut X9 hx Bd.returns rfl (Or.inr (Or.inr (Or.inr (Or.inr ⟨rfl, rfl, rfl⟩)))) (hb hby d21_32) hr
  · show Q_rmCO Z u0 kt vs xl h0 n0 _ T9.heap _
    rw [e9]
    exact ⟨b2, k2, vx9, rfl, N9, KK9, z2, f10, V9, (own_co wh w16 hvx9)⟩

theorem ef_rmE0 (m : MethodId) (x0 : Addr) (x1 : Int32) : entryFrame m #[(.ref x0), (.int x1)] 3 = mkF m 0 #[rv x0, iv x1, .unset] [] := by first | (simp [entryFrame, mkF, argsToLocals, Value.category]; done) | rfl
set_option maxRecDepth 65536 in
set_option maxHeartbeats 40000000 in
theorem rmE0 (l : Launch) (Z : State) (a0 : Array Value) (hw : ∀ d ∈ tables_1, d.before a0 Z = true) (ws : List Jvm.Cond) (u0 : Addr) (p1 : Int32) (bv : Addr) (kb : ClassId) (cap : Int32) (bs : List Value) (cnt : Int32) (h0 : Heap) (n0 : Nat) (Z0 : n0 ≤ h0.size) (P_E_u0 : Exa Z h0 u0 "java/lang/StringBuilder") (P_F_u0_AbstractStringBuilder_value : Fld Z h0 u0 "java/lang/AbstractStringBuilder" "value" "[B" (.ref bv)) (P_F_u0_AbstractStringBuilder_coder : Fld Z h0 u0 "java/lang/AbstractStringBuilder" "coder" "B" (.int (0 : Int32))) (P_F_u0_AbstractStringBuilder_count : Fld Z h0 u0 "java/lang/AbstractStringBuilder" "count" "I" (.int cnt)) (P_E_bv : Exa Z h0 bv "[B") (P_G_bv : Arv Z h0 bv kb .byte cap bs (.int 0)) (wng : ¬ (0 : Int32) < (p1 - cap)) :
    own_MF l own_y16 (Jvm.Cond.code own_y16 jdk_68_method_9_code 3 none) ws ({ frames := 0, cells := 0, slots := 0, locals := 0 } : Room) #[(.ref u0), (.int p1)] Z h0 (own_QP none h0 n0) := by
  refine MetFree.of_bodySF (plainFor_of_name pn_14) hisR ?_
  intro p e s m args below meth c s₁ Bd hml0 hP hK
  obtain ⟨rfl, hZ, hh⟩ := hP
  have hx := Bd.exec
  have hby := Bd.bytes
  have hml : c.maxLocals = 3 := hml0
  have hown : s.vm.findClass "java/lang/AbstractStringBuilder" = some m.cls := findClass_of_methodNamed Bd.named
  have hnm := (name_of_methodNamed Bd.named Bd.method).1
  have X0 : Stand p l e ({ frames := 0, cells := 0, slots := 0, locals := 0 } : Room) s m #[(.ref u0), (.int p1)] below meth c s₁ [] 0 0 := Stand.of_body Bd
  have e0 : s₁.heap = h0 := by rw [← hh, Bd.state]; rfl
  have N0 := Fr.nil n0
  have pre0 : ∀ t, Steps p.tables e below (s₁.setTop (mkF m 0 #[rv u0, iv p1, .unset] [])) t → Steps p.tables e below (s₁.setTop (entryFrame m #[(.ref u0), (.int p1)] 3)) t := fun t k => castTop (ef_rmE0 m u0 p1) k
  obtain ⟨T1, X1, e1, st1⟩ := getF X0 hx hZ hown (host := "") (Or.inl (own_g hw 63 rfl)) Via.refl e0 P_F_u0_AbstractStringBuilder_value (g := (mkF m 1 #[rv u0, iv p1, .unset] [(.ref u0)])) rfl rfl (hb hby d14_1)
  obtain ⟨cl2, Ar2, qq2, S2, N2_, H2, G2⟩ := id P_G_bv
  obtain ⟨T3, X3, e3, st3⟩ := getF X1 hx hZ hown (host := "") (Or.inl (own_g hw 65 rfl)) Via.refl e1 P_F_u0_AbstractStringBuilder_coder (g := (mkF m 6 #[rv u0, iv p1, .unset] [(.ref u0), (.int cap)])) rfl rfl (hb hby d14_6)
  obtain ⟨fs, hr, hrun, hended, hW, hsame⟩ := X3.leave (v := none) (fun _ => rfl)
  refine ⟨_, _, pre0 _ ?_, hrun, hended, _, _, rfl, ?_, ⟨_, rfl⟩, hW, hsame.mono (by decide) (by decide)⟩
  · refine XS.aloadN X0.here hx rfl (hb hby d14_0) rfl rfl ?_
    refine st1 _ ?_
    refine X1.arraylength hx (by rw [e1]; exact Ar2.1) (State.isArrayOf_alike hZ.alike Ar2.2.1) (g := (mkF m 4 #[rv u0, iv p1, .unset] [(.ref bv)])) rfl rfl (hb hby d14_4) _ ?_
    rw [len_of S2 N2_]
    refine XS.aloadN X1.here hx rfl (hb hby d14_5) rfl rfl ?_
    refine st3 _ ?_
    refine XS.ishr X3.here hx rfl (hb hby d14_9) rfl ?_
    show Steps _ _ _ (T3.setTop (mkF m 10 #[rv u0, iv p1, .unset] [(.int (cap >>> ((0 : Int32) &&& 31)))])) _
    rw [own_shr0 cap]
    refine XS.istoreN X3.here hx rfl (hb hby d14_10) rfl (l' := #[rv u0, iv p1, iv cap]) rfl ?_
    refine XS.iloadN X3.here hx rfl (hb hby d14_11) rfl ?_
    refine XS.iloadN X3.here hx rfl (hb hby d14_12) rfl ?_
    refine XS.isub X3.here hx rfl (hb hby d14_13) rfl ?_
    refine XS.ifYes X3.here hx rfl (pc0 := 14) (pc' := 38) rfl (hb hby d14_14) rfl ((if0 _ _).trans (flt wng).2.2.2) (by decide) (by decide) ?_
    show Steps _ _ _ (T3.setTop (mkF m 38 #[rv u0, iv p1, iv cap] [])) _
    exact X3.returnOut hx Bd.returns (hb hby d14_38) hr
  · show own_QP none h0 n0 _ T3.heap _
    rw [e3]
    exact ⟨rfl, N0, rfl⟩

theorem ef_rmE1 (m : MethodId) (x0 : Addr) (x1 : Int32) : entryFrame m #[(.ref x0), (.int x1)] 3 = mkF m 0 #[rv x0, iv x1, .unset] [] := by first | (simp [entryFrame, mkF, argsToLocals, Value.category]; done) | rfl
def Q_rmE1 (Z : State) (u0 : Addr) (p1 : Int32) (bv : Addr) (kb : ClassId) (bs : List Value) (cnt : Int32) (xl : List Int32) (h0 : Heap) (n0 : Nat) (v : Option Value) (h : Heap) (L : List Loc) : Prop := ∃ (t1 : Addr), ∃ (k1 : ClassId), ∃ (b1 : List Value), (v = none ∧ Fr n0 L ∧ Keep h0 h [u0] ∧ h0.size ≤ t1 ∧ Exa Z h u0 "java/lang/StringBuilder" ∧ Fld Z h u0 "java/lang/AbstractStringBuilder" "value" "[B" (.ref t1) ∧ Fld Z h u0 "java/lang/AbstractStringBuilder" "coder" "B" (.int (0 : Int32)) ∧ Fld Z h u0 "java/lang/AbstractStringBuilder" "count" "I" (.int cnt) ∧ Exa Z h t1 "[B" ∧ Arv Z h t1 k1 .byte (34 : Int32) b1 (.int 0) ∧ (own_has b1 xl ∧ own_cap (34 : Int32) b1))
set_option maxRecDepth 65536 in
set_option maxHeartbeats 40000000 in
theorem rmE1 (l : Launch) (Z : State) (a0 : Array Value) (hw : ∀ d ∈ tables_1, d.before a0 Z = true) (ws : List Jvm.Cond) (u0 : Addr) (p1 : Int32) (bv : Addr) (kb : ClassId) (bs : List Value) (cnt : Int32) (xl : List Int32) (h0 : Heap) (n0 : Nat) (Z0 : n0 ≤ h0.size) (P_E_u0 : Exa Z h0 u0 "java/lang/StringBuilder") (P_F_u0_AbstractStringBuilder_value : Fld Z h0 u0 "java/lang/AbstractStringBuilder" "value" "[B" (.ref bv)) (P_F_u0_AbstractStringBuilder_coder : Fld Z h0 u0 "java/lang/AbstractStringBuilder" "coder" "B" (.int (0 : Int32))) (P_F_u0_AbstractStringBuilder_count : Fld Z h0 u0 "java/lang/AbstractStringBuilder" "count" "I" (.int cnt)) (P_E_bv : Exa Z h0 bv "[B") (P_G_bv : Arv Z h0 bv kb .byte (16 : Int32) bs (.int 0)) (wg : (0 : Int32) < (p1 - (16 : Int32))) (wp : ¬ (34 : Int32) < p1 ∧ ¬ p1 < 0) (wh : own_has bs xl) (w16 : xl.length ≤ 16) (g_u0 : n0 ≤ u0) :
    own_MF l own_y16 (Jvm.Cond.code own_y16 jdk_68_method_9_code 3 none) ws ({ frames := 3, cells := 1, slots := 34, locals := 48 } : Room) #[(.ref u0), (.int p1)] Z h0 (Q_rmE1 Z u0 p1 bv kb bs cnt xl h0 n0) := by
  refine MetFree.of_bodySF (plainFor_of_name pn_14) hisR ?_
  intro p e s m args below meth c s₁ Bd hml0 hP hK
  obtain ⟨rfl, hZ, hh⟩ := hP
  have hx := Bd.exec
  have hby := Bd.bytes
  have hml : c.maxLocals = 3 := hml0
  have hown : s.vm.findClass "java/lang/AbstractStringBuilder" = some m.cls := findClass_of_methodNamed Bd.named
  have hnm := (name_of_methodNamed Bd.named Bd.method).1
  have X0 : Stand p l e ({ frames := 3, cells := 1, slots := 34, locals := 48 } : Room) s m #[(.ref u0), (.int p1)] below meth c s₁ [] 0 0 := Stand.of_body Bd
  have e0 : s₁.heap = h0 := by rw [← hh, Bd.state]; rfl
  have N0 := Fr.nil n0
  have pre0 : ∀ t, Steps p.tables e below (s₁.setTop (mkF m 0 #[rv u0, iv p1, .unset] [])) t → Steps p.tables e below (s₁.setTop (entryFrame m #[(.ref u0), (.int p1)] 3)) t := fun t k => castTop (ef_rmE1 m u0 p1) k
  obtain ⟨T1, X1, e1, st1⟩ := getF X0 hx hZ hown (host := "") (Or.inl (own_g hw 63 rfl)) Via.refl e0 P_F_u0_AbstractStringBuilder_value (g := (mkF m 1 #[rv u0, iv p1, .unset] [(.ref u0)])) rfl rfl (hb hby d14_1)
  obtain ⟨cl2, Ar2, qq2, S2, N2_, H2, G2⟩ := id P_G_bv
  obtain ⟨T3, X3, e3, st3⟩ := getF X1 hx hZ hown (host := "") (Or.inl (own_g hw 65 rfl)) Via.refl e1 P_F_u0_AbstractStringBuilder_coder (g := (mkF m 6 #[rv u0, iv p1, .unset] [(.ref u0), (.int (16 : Int32))])) rfl rfl (hb hby d14_6)
  obtain ⟨T4, X4, e4, st4⟩ := getF X3 hx hZ hown (host := "") (Or.inl (own_g hw 63 rfl)) Via.refl e3 P_F_u0_AbstractStringBuilder_value (g := (mkF m 19 #[rv u0, iv p1, iv (16 : Int32)] [(.ref u0), (.ref u0)])) rfl rfl (hb hby d14_19)
  obtain ⟨cq6, kq6, q6a, q6b, q6c⟩ := isOf hZ e4 P_E_u0
  obtain ⟨_, _, ⟨T5, L5, k5, n5⟩, -, X5, ⟨Lc5, hQ5, l5, y5, z5⟩, st5⟩ := X4.virtualBack hx (y := own_y20) (z := own_y20) hown (mvT hZ (own_g hw 119 rfl)) (mvT hZ (own_decl (own_g hw 120 rfl) (own_g hw 123 rfl))) (notFace_of_selects (args := #[]) (mvT hZ (own_g hw 122 rfl))) (mvT hZ (own_g hw 122 rfl)) (mvT hZ (own_g hw 120 rfl)) (by decide) (backOf (W := 2) (rmNC l Z a0 hw [] u0 p1 bv kb bs h0 n0 Z0 P_E_u0 P_F_u0_AbstractStringBuilder_value P_F_u0_AbstractStringBuilder_coder P_G_bv (own_mx wg wp.1 wp.2)) hZ (own_g hw 123 rfl) (own_g hw 59 rfl) (by decide) (by decide)) q6a q6c (g := (mkF m 24 #[rv u0, iv p1, iv (16 : Int32)] [(.int p1), (.ref u0), (.ref bv), (.ref u0)])) rfl (by rw [hml]; rfl) (Steps.refl _) (argsL := [(.int p1)]) (rest := [(.ref bv), (.ref u0)]) (lenOf pd__I_I rfl) rfl (by show 2 * 0 + _ ≤ _; exact Nat.le_of_eq rfl) (hb hby d14_24) (fun _ _ => ⟨rfl, e4, (by decide : 0 + 0 ≤ _), (by decide : 0 + 0 ≤ _)⟩)
  dsimp only [Pt.U, Pt.locs, Pt.cells, Pt.slots] at X5 l5 y5 z5 st5 hQ5
  subst l5 y5 z5
  obtain ⟨rfl, N5q, e5⟩ := hQ5
  have N5 := Fr.app N0 N5q
  obtain ⟨T7, X7, e7, st7⟩ := getF X5 hx hZ hown (host := "") (Or.inl (own_g hw 65 rfl)) Via.refl e5 P_F_u0_AbstractStringBuilder_coder (g := (mkF m 28 #[rv u0, iv p1, iv (16 : Int32)] [(.ref u0), (.int (34 : Int32)), (.ref bv), (.ref u0)])) rfl rfl (hb hby d14_28)
  obtain ⟨_, _, ⟨T8, L8, k8, n8⟩, -, X8, ⟨Lc8, hQ8, l8, y8, z8⟩, st8⟩ := Jvm.LawKit.callS X7 hx (y := own_y21) hown (mvT hZ (own_g hw 134 rfl)) (mvT hZ (own_g hw 135 rfl)) (mvT hZ (own_g hw 136 rfl)) (mvT hZ (own_g hw 137 rfl)) (by decide) (backOf (W := 1) (rmCO l Z a0 hw [] bv kb bs xl h0 n0 Z0 P_G_bv wh w16) hZ (own_g hw 137 rfl) (own_g hw 136 rfl) (by decide) (by decide)) (g := (mkF m 32 #[rv u0, iv p1, iv (16 : Int32)] [(.int (34 : Int32)), (.ref bv), (.ref u0)])) rfl (by rw [hml]; rfl) (argsL := [(.ref bv), (.int (34 : Int32))]) (rest := [(.ref u0)]) (lenOf pd___BI__B rfl) rfl (by show 2 * 0 + _ ≤ _; exact Nat.le_of_eq rfl) (hb hby d14_32) (fun _ _ => ⟨rfl, e7, (by decide : 0 + 1 ≤ _), (by decide : 0 + 34 ≤ _)⟩)
  dsimp only [Pt.U, Pt.locs, Pt.cells, Pt.slots] at X8 l8 y8 z8 st8 hQ8
  subst l8 y8 z8
  obtain ⟨yv_8, ky_8, ys_8, rfl, N8q, K8, sx8_0, f9, f10, f11⟩ := hQ8
  have oyv_8 : n0 ≤ yv_8 := Nat.le_trans Z0 sx8_0
  have zyv_8 : h0.size ≤ yv_8 := Nat.le_trans (Keep.refl h0 [u0]).1 sx8_0
  have ne12 : u0 ≠ yv_8 := Nat.ne_of_lt (Nat.lt_of_lt_of_le P_E_u0.lt sx8_0)
  have ne13 : bv ≠ yv_8 := Nat.ne_of_lt (Nat.lt_of_lt_of_le P_E_bv.lt sx8_0)
  have KK8 : Keep h0 T8.heap [u0] := Keep.trans (Keep.refl h0 [u0]) K8 all0
  have N8 := Fr.app N5 N8q
  have f14 := (P_E_u0.keep K8)
  have f15 := (P_F_u0_AbstractStringBuilder_value.keep K8 nin0)
  obtain ⟨T16, h16, X16, e16, W16, st16⟩ := putF X8 hx hZ hown (host := "") (Or.inl (own_g hw 63 rfl)) Via.refl rfl f15 f14 (Or.inl (own_g hw 64 rfl)) (own_g hw 50 rfl) (ty := (.array .byte)) (by decide) rfl rfl (g := (mkF m 35 #[rv u0, iv p1, iv (16 : Int32)] [(.ref yv_8), (.ref u0)])) rfl rfl (hb hby d14_35)
  have f16_ : Fld Z h16 u0 "java/lang/AbstractStringBuilder" "value" "[B" (.ref yv_8) := f15.same W16
  have N17 := Fr.snoc X16 N8 g_u0
  have K18 : Keep h0 h16 [u0] := KK8.wr W16 (Or.inl (List.mem_of_getElem? (i := 0) rfl))
  obtain ⟨fs, hr, hrun, hended, hW, hsame⟩ := X16.leave (v := none) (fun _ => rfl)
  have f19 := (f14.wr W16)
  have f20 := ((P_F_u0_AbstractStringBuilder_coder.keep K8 nin0).other W16 (Or.inr (slot_ne (Or.inl (own_g hw 66 rfl)) (Or.inl (own_g hw 64 rfl)) (by decide) (t := .byte) (t' := (.array .byte)) (by decide) (by decide))))
  have f21 := ((P_F_u0_AbstractStringBuilder_count.keep K8 nin0).other W16 (Or.inr (slot_ne (Or.inl (own_g hw 91 rfl)) (Or.inl (own_g hw 64 rfl)) (by decide) (t := .int) (t' := (.array .byte)) (by decide) (by decide))))
  have f22 := (f9.wr W16)
  have f23 := (f10.other W16 (Ne.symm ne12))
  refine ⟨_, _, pre0 _ ?_, hrun, hended, _, _, rfl, ?_, ⟨_, rfl⟩, hW, hsame.mono (by decide) (by decide)⟩
  · refine XS.aloadN X0.here hx rfl (hb hby d14_0) rfl rfl ?_
    refine st1 _ ?_
    refine X1.arraylength hx (by rw [e1]; exact Ar2.1) (State.isArrayOf_alike hZ.alike Ar2.2.1) (g := (mkF m 4 #[rv u0, iv p1, .unset] [(.ref bv)])) rfl rfl (hb hby d14_4) _ ?_
    rw [len_of S2 N2_]
    refine XS.aloadN X1.here hx rfl (hb hby d14_5) rfl rfl ?_
    refine st3 _ ?_
    refine XS.ishr X3.here hx rfl (hb hby d14_9) rfl ?_
    show Steps _ _ _ (T3.setTop (mkF m 10 #[rv u0, iv p1, .unset] [(.int ((16 : Int32) >>> ((0 : Int32) &&& 31)))])) _
    rw [(by decide : ((16 : Int32) >>> ((0 : Int32) &&& 31)) = (16 : Int32))]
    refine XS.istoreN X3.here hx rfl (hb hby d14_10) rfl (l' := #[rv u0, iv p1, iv (16 : Int32)]) rfl ?_
    refine XS.iloadN X3.here hx rfl (hb hby d14_11) rfl ?_
    refine XS.iloadN X3.here hx rfl (hb hby d14_12) rfl ?_
    refine XS.isub X3.here hx rfl (hb hby d14_13) rfl ?_
    refine XS.ifNo X3.here hx rfl (hb hby d14_14) rfl ((if0 _ _).trans (tlt wg).2.2.2) ?_
    refine XS.aloadN X3.here hx rfl (hb hby d14_17) rfl rfl ?_
    refine XS.aloadN X3.here hx rfl (hb hby d14_18) rfl rfl ?_
    refine st4 _ ?_
    refine XS.aloadN X4.here hx rfl (hb hby d14_22) rfl rfl ?_
    refine XS.iloadN X4.here hx rfl (hb hby d14_23) rfl ?_
    show Steps _ _ _ (T4.setTop (mkF m 24 #[rv u0, iv p1, iv (16 : Int32)] [(.int p1), (.ref u0), (.ref bv), (.ref u0)])) _
    refine st5.trans ?_
    refine XS.aloadN X5.here hx rfl (hb hby d14_27) rfl rfl ?_
    refine st7 _ ?_
    refine XS.ishl X7.here hx rfl (hb hby d14_31) rfl ?_
    show Steps _ _ _ (T7.setTop (mkF m 32 #[rv u0, iv p1, iv (16 : Int32)] [(.int ((34 : Int32) <<< ((0 : Int32) &&& 31))), (.ref bv), (.ref u0)])) _
    rw [(by decide : ((34 : Int32) <<< ((0 : Int32) &&& 31)) = (34 : Int32))]
    show Steps _ _ _ (T7.setTop (mkF m 32 #[rv u0, iv p1, iv (16 : Int32)] [(.int (34 : Int32)), (.ref bv), (.ref u0)])) _
    refine st8 _ ?_
    refine st16 _ ?_
    show Steps _ _ _ (T16.setTop (mkF m 38 #[rv u0, iv p1, iv (16 : Int32)] [])) _
    exact X16.returnOut hx Bd.returns (hb hby d14_38) hr
  · show Q_rmE1 Z u0 p1 bv kb bs cnt xl h0 n0 _ T16.heap _
    rw [e16]
    exact ⟨yv_8, ky_8, ys_8, rfl, N17, K18, zyv_8, f19, f16_, f20, f21, f22, f23, f11⟩

theorem ef_rmIF (m : MethodId) (x0 : Addr) (x1 : Addr) : entryFrame m #[(.ref x0), (.ref x1)] 2 = mkF m 0 #[rv x0, rv x1] [] := by first | (simp [entryFrame, mkF, argsToLocals, Value.category]; done) | rfl
set_option maxRecDepth 65536 in
set_option maxHeartbeats 40000000 in
theorem rmIF (l : Launch) (Z : State) (a0 : Array Value) (hw : ∀ d ∈ tables_1, d.before a0 Z = true) (ws : List Jvm.Cond) (u0 : Addr) (u1 : Addr) (zC : Int32) (h0 : Heap) (n0 : Nat) (Z0 : n0 ≤ h0.size) (P_E_u0 : Exa Z h0 u0 "java/lang/StringBuilder") (P_F_u0_AbstractStringBuilder_coder : Fld Z h0 u0 "java/lang/AbstractStringBuilder" "coder" "B" (.int (0 : Int32))) (P_E_u1 : Exa Z h0 u1 "java/lang/String") (P_F_u1_String_coder : Fld Z h0 u1 "java/lang/String" "coder" "B" (.int (0 : Int32))) (P_S_String_COMPACT_STRINGS : Sta Z h0 "java/lang/String" "COMPACT_STRINGS" "Z" (.int zC)) (hz : ¬ (zC = (0 : Int32))) :
    own_MF l own_y22 (Jvm.Cond.code own_y22 jdk_68_method_71_code 2 none) ws ({ frames := 1, cells := 0, slots := 0, locals := 13 } : Room) #[(.ref u0), (.ref u1)] Z h0 (own_QP none h0 n0) := by
  refine MetFree.of_bodySF (plainFor_of_name pn_16) hisR ?_
  intro p e s m args below meth c s₁ Bd hml0 hP hK
  obtain ⟨rfl, hZ, hh⟩ := hP
  have hx := Bd.exec
  have hby := Bd.bytes
  have hml : c.maxLocals = 2 := hml0
  have hown : s.vm.findClass "java/lang/AbstractStringBuilder" = some m.cls := findClass_of_methodNamed Bd.named
  have hnm := (name_of_methodNamed Bd.named Bd.method).1
  have X0 : Stand p l e ({ frames := 1, cells := 0, slots := 0, locals := 13 } : Room) s m #[(.ref u0), (.ref u1)] below meth c s₁ [] 0 0 := Stand.of_body Bd
  have e0 : s₁.heap = h0 := by rw [← hh, Bd.state]; rfl
  have N0 := Fr.nil n0
  have pre0 : ∀ t, Steps p.tables e below (s₁.setTop (mkF m 0 #[rv u0, rv u1] [])) t → Steps p.tables e below (s₁.setTop (entryFrame m #[(.ref u0), (.ref u1)] 2)) t := fun t k => castTop (ef_rmIF m u0 u1) k
  obtain ⟨T1, X1, e1, st1⟩ := getS2 X0 hx hZ hown (host := "") (Or.inl (own_g hw 62 rfl)) Via.refl e0 P_S_String_COMPACT_STRINGS (g := (mkF m 0 #[rv u0, rv u1] [])) rfl (hb hby d16_0)
  obtain ⟨T2, X2, e2, st2⟩ := getF X1 hx hZ hown (host := "") (Or.inl (own_g hw 65 rfl)) Via.refl e1 P_F_u0_AbstractStringBuilder_coder (g := (mkF m 7 #[rv u0, rv u1] [(.ref u0)])) rfl rfl (hb hby d16_7)
  obtain ⟨cq4, kq4, q4a, q4b, q4c⟩ := isOf hZ e2 P_E_u1
  obtain ⟨_, _, ⟨T3, L3, k3, n3⟩, -, X3, ⟨Lc3, hQ3, l3, y3, z3⟩, st3⟩ := X2.virtualBack hx (y := own_y0) (z := own_y0) hown (mvT hZ (own_g hw 107 rfl)) (mvT hZ (own_g hw 86 rfl)) (notFace_of_selects (args := #[]) (mvT hZ (own_g hw 88 rfl))) (mvT hZ (own_g hw 88 rfl)) (mvT hZ (own_g hw 87 rfl)) (by decide) (backOf (W := 1) (rmCo l Z a0 hw [] u1 zC h0 n0 Z0 P_F_u1_String_coder P_S_String_COMPACT_STRINGS hz) hZ (own_g hw 89 rfl) (own_g hw 14 rfl) (by decide) (by decide)) q4a q4c (g := (mkF m 11 #[rv u0, rv u1] [(.ref u1), (.int (0 : Int32))])) rfl (by rw [hml]; rfl) (Steps.refl _) (argsL := []) (rest := [(.int (0 : Int32))]) (lenOf pd___B rfl) rfl (by show 2 * 0 + _ ≤ _; exact Nat.le_of_eq rfl) (hb hby d16_11) (fun _ _ => ⟨rfl, e2, (by decide : 0 + 0 ≤ _), (by decide : 0 + 0 ≤ _)⟩)
  dsimp only [Pt.U, Pt.locs, Pt.cells, Pt.slots] at X3 l3 y3 z3 st3 hQ3
  subst l3 y3 z3
  obtain ⟨rfl, N3q, e3⟩ := hQ3
  have N3 := Fr.app N0 N3q
  obtain ⟨fs, hr, hrun, hended, hW, hsame⟩ := X3.leave (v := none) (fun _ => rfl)
  refine ⟨_, _, pre0 _ ?_, hrun, hended, _, _, rfl, ?_, ⟨_, rfl⟩, hW, hsame.mono (by decide) (by decide)⟩
  · refine st1 _ ?_
    refine XS.ifNo X1.here hx rfl (hb hby d16_3) rfl ((if0 _ _).trans (feq hz).1) ?_
    refine XS.aloadN X1.here hx rfl (hb hby d16_6) rfl rfl ?_
    refine st2 _ ?_
    refine XS.aloadN X2.here hx rfl (hb hby d16_10) rfl rfl ?_
    show Steps _ _ _ (T2.setTop (mkF m 11 #[rv u0, rv u1] [(.ref u1), (.int (0 : Int32))])) _
    refine st3.trans ?_
    refine XS.icmpYes X3.here hx rfl (pc0 := 14) (pc' := 21) rfl (hb hby d16_14) rfl (teq (by decide : (0 : Int32) = (0 : Int32))).1 (by decide) (by decide) ?_
    show Steps _ _ _ (T3.setTop (mkF m 21 #[rv u0, rv u1] [])) _
    exact X3.returnOut hx Bd.returns (hb hby d16_21) hr
  · show own_QP none h0 n0 _ T3.heap _
    rw [e3]
    exact ⟨rfl, N3, rfl⟩

theorem ef_rmGB (m : MethodId) (x0 : Addr) (x1 : Addr) (x2 : Int32) (x3 : Int32) : entryFrame m #[(.ref x0), (.ref x1), (.int x2), (.int x3)] 4 = mkF m 0 #[rv x0, rv x1, iv x2, iv x3] [] := by first | (simp [entryFrame, mkF, argsToLocals, Value.category]; done) | rfl
def Q_rmGB (Z : State) (u0 : Addr) (u1 : Addr) (p2 : Int32) (tv : Addr) (kt : ClassId) (z : Int32) (vs : List Value) (kb : ClassId) (cap : Int32) (bs : List Value) (xl : List Int32) (xm : List Int32) (zC : Int32) (h0 : Heap) (n0 : Nat) (v : Option Value) (h : Heap) (L : List Loc) : Prop := ∃ (b2 : List Value), (v = none ∧ Fr n0 L ∧ Keep h0 h [u1] ∧ Arv Z h u1 kb .byte cap b2 (.int 0) ∧ (own_has b2 (xl ++ xm) ∧ own_cap cap b2))
set_option maxRecDepth 65536 in
set_option maxHeartbeats 40000000 in
theorem rmGB (l : Launch) (Z : State) (a0 : Array Value) (hw : ∀ d ∈ tables_1, d.before a0 Z = true) (ws : List Jvm.Cond) (u0 : Addr) (u1 : Addr) (p2 : Int32) (tv : Addr) (kt : ClassId) (z : Int32) (vs : List Value) (kb : ClassId) (cap : Int32) (bs : List Value) (xl : List Int32) (xm : List Int32) (zC : Int32) (h0 : Heap) (n0 : Nat) (Z0 : n0 ≤ h0.size) (P_E_u0 : Exa Z h0 u0 "java/lang/String") (P_F_u0_String_value : Fld Z h0 u0 "java/lang/String" "value" "[B" (.ref tv)) (P_F_u0_String_coder : Fld Z h0 u0 "java/lang/String" "coder" "B" (.int (0 : Int32))) (P_G_tv : Arv Z h0 tv kt .byte z vs (.int 0)) (P_G_u1 : Arv Z h0 u1 kb .byte cap bs (.int 0)) (neA : tv ≠ u1) (P_S_String_COMPACT_STRINGS : Sta Z h0 "java/lang/String" "COMPACT_STRINGS" "Z" (.int zC)) (hz : ¬ (zC = (0 : Int32))) (wl : own_len xl p2) (wm : own_len xm z) (wf : own_fit xl xm cap) (wc : own_cap cap bs) (wh : own_has bs xl) (wM : own_has vs xm) (g_u1 : n0 ≤ u1) :
    own_MF l own_y23 (Jvm.Cond.code own_y23 jdk_42_method_147_code 4 none) ws ({ frames := 1, cells := 0, slots := 0, locals := 18 } : Room) #[(.ref u0), (.ref u1), (.int p2), (.int (0 : Int32))] Z h0 (Q_rmGB Z u0 u1 p2 tv kt z vs kb cap bs xl xm zC h0 n0) := by
  refine MetFree.of_bodySF (plainFor_of_name pn_17) hisR ?_
  intro p e s m args below meth c s₁ Bd hml0 hP hK
  obtain ⟨rfl, hZ, hh⟩ := hP
  have hx := Bd.exec
  have hby := Bd.bytes
  have hml : c.maxLocals = 4 := hml0
  have hown : s.vm.findClass "java/lang/String" = some m.cls := findClass_of_methodNamed Bd.named
  have hnm := (name_of_methodNamed Bd.named Bd.method).1
  have X0 : Stand p l e ({ frames := 1, cells := 0, slots := 0, locals := 18 } : Room) s m #[(.ref u0), (.ref u1), (.int p2), (.int (0 : Int32))] below meth c s₁ [] 0 0 := Stand.of_body Bd
  have e0 : s₁.heap = h0 := by rw [← hh, Bd.state]; rfl
  have N0 := Fr.nil n0
  have pre0 : ∀ t, Steps p.tables e below (s₁.setTop (mkF m 0 #[rv u0, rv u1, iv p2, iv (0 : Int32)] [])) t → Steps p.tables e below (s₁.setTop (entryFrame m #[(.ref u0), (.ref u1), (.int p2), (.int (0 : Int32))] 4)) t := fun t k => castTop (ef_rmGB m u0 u1 p2 (0 : Int32)) k
  obtain ⟨cq2, kq2, q2a, q2b, q2c⟩ := isOf hZ e0 P_E_u0
  obtain ⟨_, _, ⟨T1, L1, k1, n1⟩, -, X1, ⟨Lc1, hQ1, l1, y1, z1⟩, st1⟩ := X0.virtualBack hx (y := own_y0) (z := own_y0) hown (mvT hZ (own_g hw 85 rfl)) (mvT hZ (own_g hw 86 rfl)) (notFace_of_selects (args := #[]) (mvT hZ (own_g hw 88 rfl))) (mvT hZ (own_g hw 88 rfl)) (mvT hZ (own_g hw 87 rfl)) (by decide) (backOf (W := 0) (rmCo l Z a0 hw [] u0 zC h0 n0 Z0 P_F_u0_String_coder P_S_String_COMPACT_STRINGS hz) hZ (own_g hw 89 rfl) (own_g hw 14 rfl) (by decide) (by decide)) q2a q2c (g := (mkF m 1 #[rv u0, rv u1, iv p2, iv (0 : Int32)] [(.ref u0)])) rfl (by rw [hml]; rfl) (Steps.refl _) (argsL := []) (rest := []) (lenOf pd___B rfl) rfl (by show 2 * 0 + _ ≤ _; exact Nat.le_of_eq rfl) (hb hby d17_1) (fun _ _ => ⟨rfl, e0, (by decide : 0 + 0 ≤ _), (by decide : 0 + 0 ≤ _)⟩)
  dsimp only [Pt.U, Pt.locs, Pt.cells, Pt.slots] at X1 l1 y1 z1 st1 hQ1
  subst l1 y1 z1
  obtain ⟨rfl, N1q, e1⟩ := hQ1
  have N1 := Fr.app N0 N1q
  obtain ⟨T3, X3, e3, st3⟩ := getF X1 hx hZ hown (host := "") (Or.inl (own_g hw 40 rfl)) Via.refl e1 P_F_u0_String_value (g := (mkF m 9 #[rv u0, rv u1, iv p2, iv (0 : Int32)] [(.ref u0)])) rfl rfl (hb hby d17_9)
  obtain ⟨T4, X4, e4, st4⟩ := getF X3 hx hZ hown (host := "") (Or.inl (own_g hw 40 rfl)) Via.refl e3 P_F_u0_String_value (g := (mkF m 18 #[rv u0, rv u1, iv p2, iv (0 : Int32)] [(.ref u0), (.int p2), (.ref u1), (.int (0 : Int32)), (.ref tv)])) rfl rfl (hb hby d17_18)
  obtain ⟨cl5, Ar5, qq5, S5, N5_, H5, G5⟩ := id P_G_tv
  obtain ⟨T6, h6, L6, X6, e6, N6, K6, V6_, st6⟩ := cpA X4 hx hZ hown (own_g hw 113 rfl) (own_g hw 116 rfl) (own_g hw 114 rfl) (own_g hw 115 rfl) e4 P_G_tv P_G_u1  (Or.inl ⟨rfl, rfl⟩) (sp := (0 : Int32)) (dp := p2) (nn := z) (by decide) (own_b0 wl) (own_b0 wm) (own_b4 z) (own_g4 wl wm wf) rfl (own_g5 wl wm wf wc) N1 g_u1 (g := (mkF m 22 #[rv u0, rv u1, iv p2, iv (0 : Int32)] [(.int z), (.int p2), (.ref u1), (.int (0 : Int32)), (.ref tv)])) rfl (by rw [hml]; rfl) rfl (hb hby d17_22) (by decide) (W := 0) (by show 2 * 0 + _ ≤ _; exact Nat.le_of_eq rfl) (by decide)
  have KK6 : Keep h0 h6 [u1] := Keep.trans (Keep.refl h0 [u1]) K6 (allS (Or.inl (List.mem_of_getElem? (i := 0) rfl)) all0)
  obtain ⟨vx6, V6, hvx6⟩ : ∃ vx, Arv Z h6 u1 kb .byte cap vx (.int 0) ∧ vx = (bs).take (p2).toNatClampNeg ++ (List.range (z).toNatClampNeg).map (fun i => (vs).getD (((0 : Int32)).toNatClampNeg + i) (.int 0)) ++ (bs).drop ((p2).toNatClampNeg + (z).toNatClampNeg) := ⟨_, V6_, rfl⟩
  obtain ⟨fs, hr, hrun, hended, hW, hsame⟩ := X6.leave (v := none) (fun _ => rfl)
  refine ⟨_, _, pre0 _ ?_, hrun, hended, _, _, rfl, ?_, ⟨_, rfl⟩, hW, hsame.mono (by decide) (by decide)⟩
  · refine XS.aloadN X0.here hx rfl (hb hby d17_0) rfl rfl ?_
    show Steps _ _ _ (s₁.setTop (mkF m 1 #[rv u0, rv u1, iv p2, iv (0 : Int32)] [(.ref u0)])) _
    refine st1.trans ?_
    refine XS.iloadN X1.here hx rfl (hb hby d17_4) rfl ?_
    refine XS.icmpNo X1.here hx rfl (hb hby d17_5) rfl (teq (by decide : (0 : Int32) = (0 : Int32))).2 ?_
    refine XS.aloadN X1.here hx rfl (hb hby d17_8) rfl rfl ?_
    refine st3 _ ?_
    refine XS.iconst X3.here hx rfl (hb hby d17_12) ?_
    refine XS.aloadN X3.here hx rfl (hb hby d17_13) rfl rfl ?_
    refine XS.iloadN X3.here hx rfl (hb hby d17_14) rfl ?_
    refine XS.iloadN X3.here hx rfl (hb hby d17_15) rfl ?_
    refine XS.ishl X3.here hx rfl (hb hby d17_16) rfl ?_
    show Steps _ _ _ (T3.setTop (mkF m 17 #[rv u0, rv u1, iv p2, iv (0 : Int32)] [(.int (p2 <<< ((0 : Int32) &&& 31))), (.ref u1), (.int (0 : Int32)), (.ref tv)])) _
    rw [own_shl0 p2]
    refine XS.aloadN X3.here hx rfl (hb hby d17_17) rfl rfl ?_
    refine st4 _ ?_
    refine X4.arraylength hx (by rw [e4]; exact Ar5.1) (State.isArrayOf_alike hZ.alike Ar5.2.1) (g := (mkF m 21 #[rv u0, rv u1, iv p2, iv (0 : Int32)] [(.ref tv), (.int p2), (.ref u1), (.int (0 : Int32)), (.ref tv)])) rfl rfl (hb hby d17_21) _ ?_
    rw [len_of S5 N5_]
    show Steps _ _ _ (T4.setTop (mkF m 22 #[rv u0, rv u1, iv p2, iv (0 : Int32)] [(.int z), (.int p2), (.ref u1), (.int (0 : Int32)), (.ref tv)])) _
    refine st6 _ ?_
    refine XS.goto X6.here hx rfl (pc0 := 25) (pc' := 43) rfl (hb hby d17_25) (by decide) (by decide) ?_
    show Steps _ _ _ (T6.setTop (mkF m 43 #[rv u0, rv u1, iv p2, iv (0 : Int32)] [])) _
    exact X6.returnOut hx Bd.returns (hb hby d17_43) hr
  · show Q_rmGB Z u0 u1 p2 tv kt z vs kb cap bs xl xm zC h0 n0 _ T6.heap _
    rw [e6]
    exact ⟨vx6, rfl, N6, KK6, V6, (own_g6 wl wm wf wc wh wM hvx6)⟩

theorem ef_rmPS (m : MethodId) (x0 : Addr) (x1 : Int32) (x2 : Addr) : entryFrame m #[(.ref x0), (.int x1), (.ref x2)] 3 = mkF m 0 #[rv x0, iv x1, rv x2] [] := by first | (simp [entryFrame, mkF, argsToLocals, Value.category]; done) | rfl
def Q_rmPS (Z : State) (u0 : Addr) (p1 : Int32) (u2 : Addr) (tv : Addr) (kt : ClassId) (z : Int32) (vs : List Value) (bv : Addr) (kb : ClassId) (cap : Int32) (bs : List Value) (cnt : Int32) (xl : List Int32) (xm : List Int32) (zC : Int32) (h0 : Heap) (n0 : Nat) (v : Option Value) (h : Heap) (L : List Loc) : Prop := ∃ (b2 : List Value), (v = none ∧ Fr n0 L ∧ Keep h0 h [bv] ∧ Arv Z h bv kb .byte cap b2 (.int 0) ∧ (own_has b2 (xl ++ xm) ∧ own_cap cap b2))
set_option maxRecDepth 65536 in
set_option maxHeartbeats 40000000 in
theorem rmPS (l : Launch) (Z : State) (a0 : Array Value) (hw : ∀ d ∈ tables_1, d.before a0 Z = true) (ws : List Jvm.Cond) (u0 : Addr) (p1 : Int32) (u2 : Addr) (tv : Addr) (kt : ClassId) (z : Int32) (vs : List Value) (bv : Addr) (kb : ClassId) (cap : Int32) (bs : List Value) (cnt : Int32) (xl : List Int32) (xm : List Int32) (zC : Int32) (h0 : Heap) (n0 : Nat) (Z0 : n0 ≤ h0.size) (P_E_u0 : Exa Z h0 u0 "java/lang/StringBuilder") (P_F_u0_AbstractStringBuilder_value : Fld Z h0 u0 "java/lang/AbstractStringBuilder" "value" "[B" (.ref bv)) (P_F_u0_AbstractStringBuilder_coder : Fld Z h0 u0 "java/lang/AbstractStringBuilder" "coder" "B" (.int (0 : Int32))) (P_F_u0_AbstractStringBuilder_count : Fld Z h0 u0 "java/lang/AbstractStringBuilder" "count" "I" (.int cnt)) (P_E_bv : Exa Z h0 bv "[B") (P_G_bv : Arv Z h0 bv kb .byte cap bs (.int 0)) (P_E_u2 : Exa Z h0 u2 "java/lang/String") (P_F_u2_String_value : Fld Z h0 u2 "java/lang/String" "value" "[B" (.ref tv)) (P_F_u2_String_coder : Fld Z h0 u2 "java/lang/String" "coder" "B" (.int (0 : Int32))) (P_G_tv : Arv Z h0 tv kt .byte z vs (.int 0)) (neA : tv ≠ bv) (P_S_String_COMPACT_STRINGS : Sta Z h0 "java/lang/String" "COMPACT_STRINGS" "Z" (.int zC)) (hz : ¬ (zC = (0 : Int32))) (wl : own_len xl p1) (wm : own_len xm z) (wf : own_fit xl xm cap) (wc : own_cap cap bs) (wh : own_has bs xl) (wM : own_has vs xm) (g_bv : n0 ≤ bv) :
    own_MF l own_y24 (Jvm.Cond.code own_y24 jdk_68_method_73_code 3 none) ws ({ frames := 2, cells := 0, slots := 0, locals := 33 } : Room) #[(.ref u0), (.int p1), (.ref u2)] Z h0 (Q_rmPS Z u0 p1 u2 tv kt z vs bv kb cap bs cnt xl xm zC h0 n0) := by
  refine MetFree.of_bodySF (plainFor_of_name pn_15) hisR ?_
  intro p e s m args below meth c s₁ Bd hml0 hP hK
  obtain ⟨rfl, hZ, hh⟩ := hP
  have hx := Bd.exec
  have hby := Bd.bytes
  have hml : c.maxLocals = 3 := hml0
  have hown : s.vm.findClass "java/lang/AbstractStringBuilder" = some m.cls := findClass_of_methodNamed Bd.named
  have hnm := (name_of_methodNamed Bd.named Bd.method).1
  have X0 : Stand p l e ({ frames := 2, cells := 0, slots := 0, locals := 33 } : Room) s m #[(.ref u0), (.int p1), (.ref u2)] below meth c s₁ [] 0 0 := Stand.of_body Bd
  have e0 : s₁.heap = h0 := by rw [← hh, Bd.state]; rfl
  have N0 := Fr.nil n0
  have pre0 : ∀ t, Steps p.tables e below (s₁.setTop (mkF m 0 #[rv u0, iv p1, rv u2] [])) t → Steps p.tables e below (s₁.setTop (entryFrame m #[(.ref u0), (.int p1), (.ref u2)] 3)) t := fun t k => castTop (ef_rmPS m u0 p1 u2) k
  obtain ⟨cq2, kq2, q2a, q2b, q2c⟩ := isOf hZ e0 P_E_u0
  obtain ⟨_, _, ⟨T1, L1, k1, n1⟩, -, X1, ⟨Lc1, hQ1, l1, y1, z1⟩, st1⟩ := X0.virtualBack hx (y := own_y22) (z := own_y22) hown (mvT hZ (own_g hw 102 rfl)) (mvT hZ (own_decl (own_g hw 103 rfl) (own_g hw 106 rfl))) (notFace_of_selects (args := #[]) (mvT hZ (own_g hw 105 rfl))) (mvT hZ (own_g hw 105 rfl)) (mvT hZ (own_g hw 103 rfl)) (by decide) (backOf (W := 0) (rmIF l Z a0 hw [] u0 u2 zC h0 n0 Z0 P_E_u0 P_F_u0_AbstractStringBuilder_coder P_E_u2 P_F_u2_String_coder P_S_String_COMPACT_STRINGS hz) hZ (own_g hw 106 rfl) (own_g hw 59 rfl) (by decide) (by decide)) q2a q2c (g := (mkF m 2 #[rv u0, iv p1, rv u2] [(.ref u2), (.ref u0)])) rfl (by rw [hml]; rfl) (Steps.refl _) (argsL := [(.ref u2)]) (rest := []) (lenOf pd__Ljava_lang_String__V rfl) rfl (by show 2 * 0 + _ ≤ _; exact Nat.le_of_eq rfl) (hb hby d15_2) (fun _ _ => ⟨rfl, e0, (by decide : 0 + 0 ≤ _), (by decide : 0 + 0 ≤ _)⟩)
  dsimp only [Pt.U, Pt.locs, Pt.cells, Pt.slots] at X1 l1 y1 z1 st1 hQ1
  subst l1 y1 z1
  obtain ⟨rfl, N1q, e1⟩ := hQ1
  have N1 := Fr.app N0 N1q
  obtain ⟨T3, X3, e3, st3⟩ := getF X1 hx hZ hown (host := "") (Or.inl (own_g hw 63 rfl)) Via.refl e1 P_F_u0_AbstractStringBuilder_value (g := (mkF m 7 #[rv u0, iv p1, rv u2] [(.ref u0), (.ref u2)])) rfl rfl (hb hby d15_7)
  obtain ⟨T4, X4, e4, st4⟩ := getF X3 hx hZ hown (host := "") (Or.inl (own_g hw 65 rfl)) Via.refl e3 P_F_u0_AbstractStringBuilder_coder (g := (mkF m 12 #[rv u0, iv p1, rv u2] [(.ref u0), (.int p1), (.ref bv), (.ref u2)])) rfl rfl (hb hby d15_12)
  obtain ⟨cq6, kq6, q6a, q6b, q6c⟩ := isOf hZ e4 P_E_u2
  obtain ⟨_, _, ⟨T5, L5, k5, n5⟩, -, X5, ⟨Lc5, hQ5, l5, y5, z5⟩, st5⟩ := X4.virtualBack hx (y := own_y23) (z := own_y23) hown (mvT hZ (own_g hw 108 rfl)) (mvT hZ (own_g hw 109 rfl)) (notFace_of_selects (args := #[]) (mvT hZ (own_g hw 111 rfl))) (mvT hZ (own_g hw 111 rfl)) (mvT hZ (own_g hw 110 rfl)) (by decide) (backOf (W := 0) (rmGB l Z a0 hw [] u2 bv p1 tv kt z vs kb cap bs xl xm zC h0 n0 Z0 P_E_u2 P_F_u2_String_value P_F_u2_String_coder P_G_tv P_G_bv neA P_S_String_COMPACT_STRINGS hz wl wm wf wc wh wM g_bv) hZ (own_g hw 112 rfl) (own_g hw 14 rfl) (by decide) (by decide)) q6a q6c (g := (mkF m 15 #[rv u0, iv p1, rv u2] [(.int (0 : Int32)), (.int p1), (.ref bv), (.ref u2)])) rfl (by rw [hml]; rfl) (Steps.refl _) (argsL := [(.ref bv), (.int p1), (.int (0 : Int32))]) (rest := []) (lenOf pd___BIB_V rfl) rfl (by show 2 * 0 + _ ≤ _; exact Nat.le_of_eq rfl) (hb hby d15_15) (fun _ _ => ⟨rfl, e4, (by decide : 0 + 0 ≤ _), (by decide : 0 + 0 ≤ _)⟩)
  dsimp only [Pt.U, Pt.locs, Pt.cells, Pt.slots] at X5 l5 y5 z5 st5 hQ5
  subst l5 y5 z5
  obtain ⟨b2_5, rfl, N5q, K5, f7, f8⟩ := hQ5
  have KK5 : Keep h0 T5.heap [bv] := Keep.trans (Keep.refl h0 [bv]) K5 (allS (Or.inl (List.mem_of_getElem? (i := 0) rfl)) all0)
  have N5 := Fr.app N1 N5q
  obtain ⟨fs, hr, hrun, hended, hW, hsame⟩ := X5.leave (v := none) (fun _ => rfl)
  refine ⟨_, _, pre0 _ ?_, hrun, hended, _, _, rfl, ?_, ⟨_, rfl⟩, hW, hsame.mono (by decide) (by decide)⟩
  · refine XS.aloadN X0.here hx rfl (hb hby d15_0) rfl rfl ?_
    refine XS.aloadN X0.here hx rfl (hb hby d15_1) rfl rfl ?_
    show Steps _ _ _ (s₁.setTop (mkF m 2 #[rv u0, iv p1, rv u2] [(.ref u2), (.ref u0)])) _
    refine st1.trans ?_
    refine XS.aloadN X1.here hx rfl (hb hby d15_5) rfl rfl ?_
    refine XS.aloadN X1.here hx rfl (hb hby d15_6) rfl rfl ?_
    refine st3 _ ?_
    refine XS.iloadN X3.here hx rfl (hb hby d15_10) rfl ?_
    refine XS.aloadN X3.here hx rfl (hb hby d15_11) rfl rfl ?_
    refine st4 _ ?_
    show Steps _ _ _ (T4.setTop (mkF m 15 #[rv u0, iv p1, rv u2] [(.int (0 : Int32)), (.int p1), (.ref bv), (.ref u2)])) _
    refine st5.trans ?_
    show Steps _ _ _ (T5.setTop (mkF m 18 #[rv u0, iv p1, rv u2] [])) _
    exact X5.returnOut hx Bd.returns (hb hby d15_18) hr
  · show Q_rmPS Z u0 p1 u2 tv kt z vs bv kb cap bs cnt xl xm zC h0 n0 _ T5.heap _
    exact ⟨b2_5, rfl, N5, KK5, f7, f8⟩

theorem ef_rmAp (m : MethodId) (x0 : Addr) (x1 : Addr) : entryFrame m #[(.ref x0), (.ref x1)] 3 = mkF m 0 #[rv x0, rv x1, .unset] [] := by first | (simp [entryFrame, mkF, argsToLocals, Value.category]; done) | rfl
def Q_rmAp (Z : State) (u0 : Addr) (u1 : Addr) (tv : Addr) (kt : ClassId) (z : Int32) (vs : List Value) (bv : Addr) (kb : ClassId) (cap : Int32) (bs : List Value) (cnt : Int32) (xl : List Int32) (xm : List Int32) (zC : Int32) (h0 : Heap) (n0 : Nat) (v : Option Value) (h : Heap) (L : List Loc) : Prop := ∃ (t2 : Jvm.Addr), ∃ (k2 : ClassId), ∃ (cap2 : Int32), ∃ (b2 : List Value), ∃ (cn2 : Int32), (v = (some (.ref u0)) ∧ Fr n0 L ∧ Keep h0 h [u0, bv] ∧ Exa Z h u0 "java/lang/StringBuilder" ∧ Fld Z h u0 "java/lang/AbstractStringBuilder" "value" "[B" (.ref t2) ∧ Fld Z h u0 "java/lang/AbstractStringBuilder" "coder" "B" (.int (0 : Int32)) ∧ Fld Z h u0 "java/lang/AbstractStringBuilder" "count" "I" (.int cn2) ∧ Exa Z h t2 "[B" ∧ Arv Z h t2 k2 .byte cap2 b2 (.int 0) ∧ (own_has b2 (xl ++ xm) ∧ own_cap cap2 b2) ∧ (own_len (xl ++ xm) cn2 ∧ own_in (xl ++ xm) cap2) ∧ ((t2 = bv ∨ h0.size ≤ t2)))
set_option maxRecDepth 65536 in
set_option maxHeartbeats 40000000 in
theorem rmAp (l : Launch) (Z : State) (a0 : Array Value) (hw : ∀ d ∈ tables_1, d.before a0 Z = true) (ws : List Jvm.Cond) (u0 : Addr) (u1 : Addr) (tv : Addr) (kt : ClassId) (z : Int32) (vs : List Value) (bv : Addr) (kb : ClassId) (cap : Int32) (bs : List Value) (cnt : Int32) (xl : List Int32) (xm : List Int32) (zC : Int32) (h0 : Heap) (n0 : Nat) (Z0 : n0 ≤ h0.size) (P_E_u0 : Exa Z h0 u0 "java/lang/StringBuilder") (P_F_u0_AbstractStringBuilder_value : Fld Z h0 u0 "java/lang/AbstractStringBuilder" "value" "[B" (.ref bv)) (P_F_u0_AbstractStringBuilder_coder : Fld Z h0 u0 "java/lang/AbstractStringBuilder" "coder" "B" (.int (0 : Int32))) (P_F_u0_AbstractStringBuilder_count : Fld Z h0 u0 "java/lang/AbstractStringBuilder" "count" "I" (.int cnt)) (P_E_bv : Exa Z h0 bv "[B") (P_G_bv : Arv Z h0 bv kb .byte cap bs (.int 0)) (P_E_u1 : Exa Z h0 u1 "java/lang/String") (P_F_u1_String_value : Fld Z h0 u1 "java/lang/String" "value" "[B" (.ref tv)) (P_F_u1_String_coder : Fld Z h0 u1 "java/lang/String" "coder" "B" (.int (0 : Int32))) (P_G_tv : Arv Z h0 tv kt .byte z vs (.int 0)) (neB : tv ≠ u0) (neA : tv ≠ bv) (neC : u1 ≠ u0) (neD : u1 ≠ bv) (neE : bv ≠ u0) (P_S_String_COMPACT_STRINGS : Sta Z h0 "java/lang/String" "COMPACT_STRINGS" "Z" (.int zC)) (hz : ¬ (zC = (0 : Int32))) (wi : own_in xl cap) (wl : own_len xl cnt) (wm : own_len xm z) (w34 : xl.length + xm.length ≤ 34) (wc : own_cap cap bs) (wh : own_has bs xl) (wM : own_has vs xm) (g_u0 : n0 ≤ u0) (g_bv : n0 ≤ bv) :
    own_MF l own_y25 (Jvm.Cond.code own_y25 jdk_68_method_22_code 3 (some (.object "java/lang/AbstractStringBuilder"))) ws ({ frames := 4, cells := 1, slots := 34, locals := 62 } : Room) #[(.ref u0), (.ref u1)] Z h0 (Q_rmAp Z u0 u1 tv kt z vs bv kb cap bs cnt xl xm zC h0 n0) := by
  refine MetFree.of_bodySF (plainFor_of_name pn_11) hisR ?_
  intro p e s m args below meth c s₁ Bd hml0 hP hK
  obtain ⟨rfl, hZ, hh⟩ := hP
  have hx := Bd.exec
  have hby := Bd.bytes
  have hml : c.maxLocals = 3 := hml0
  have hown : s.vm.findClass "java/lang/AbstractStringBuilder" = some m.cls := findClass_of_methodNamed Bd.named
  have hnm := (name_of_methodNamed Bd.named Bd.method).1
  have X0 : Stand p l e ({ frames := 4, cells := 1, slots := 34, locals := 62 } : Room) s m #[(.ref u0), (.ref u1)] below meth c s₁ [] 0 0 := Stand.of_body Bd
  have e0 : s₁.heap = h0 := by rw [← hh, Bd.state]; rfl
  have N0 := Fr.nil n0
  have pre0 : ∀ t, Steps p.tables e below (s₁.setTop (mkF m 0 #[rv u0, rv u1, .unset] [])) t → Steps p.tables e below (s₁.setTop (entryFrame m #[(.ref u0), (.ref u1)] 3)) t := fun t k => castTop (ef_rmAp m u0 u1) k
  obtain ⟨cq2, kq2, q2a, q2b, q2c⟩ := isOf hZ e0 P_E_u1
  obtain ⟨_, _, ⟨T1, L1, k1, n1⟩, -, X1, ⟨Lc1, hQ1, l1, y1, z1⟩, st1⟩ := X0.virtualBack hx (y := own_y2) (z := own_y2) hown (mvT hZ (own_g hw 80 rfl)) (mvT hZ (own_g hw 81 rfl)) (notFace_of_selects (args := #[]) (mvT hZ (own_g hw 83 rfl))) (mvT hZ (own_g hw 83 rfl)) (mvT hZ (own_g hw 82 rfl)) (by decide) (backOf (W := 0) (rmLe l Z a0 hw [] u1 tv kt z vs zC h0 n0 Z0 P_E_u1 P_F_u1_String_value P_F_u1_String_coder P_G_tv P_S_String_COMPACT_STRINGS hz) hZ (own_g hw 84 rfl) (own_g hw 14 rfl) (by decide) (by decide)) q2a q2c (g := (mkF m 10 #[rv u0, rv u1, .unset] [(.ref u1)])) rfl (by rw [hml]; rfl) (Steps.refl _) (argsL := []) (rest := []) (lenOf pd___I rfl) rfl (by show 2 * 0 + _ ≤ _; exact Nat.le_of_eq rfl) (hb hby d11_10) (fun _ _ => ⟨rfl, e0, (by decide : 0 + 0 ≤ _), (by decide : 0 + 0 ≤ _)⟩)
  dsimp only [Pt.U, Pt.locs, Pt.cells, Pt.slots] at X1 l1 y1 z1 st1 hQ1
  subst l1 y1 z1
  obtain ⟨rfl, N1q, e1⟩ := hQ1
  have N1 := Fr.app N0 N1q
  obtain ⟨T3, X3, e3, st3⟩ := getF X1 hx hZ hown (host := "") (Or.inl (own_g hw 90 rfl)) Via.refl e1 P_F_u0_AbstractStringBuilder_count (g := (mkF m 16 #[rv u0, rv u1, iv z] [(.ref u0), (.ref u0)])) rfl rfl (hb hby d11_16)
  have pre5 : ∀ t, Steps p.tables e below (T3.setTop (mkF m 21 #[rv u0, rv u1, iv z] [(.int (cnt + z)), (.ref u0)])) t → Steps p.tables e below (s₁.setTop (entryFrame m #[(.ref u0), (.ref u1)] 3)) t := fun t kt => pre0 t (by
   refine XS.aloadN X0.here hx rfl (hb hby d11_0) rfl rfl ?_
   refine XS.ifnonnullYes X0.here hx rfl (pc0 := 1) (pc' := 9) rfl (hb hby d11_1) rfl (by decide) (by decide) ?_
   refine XS.aloadN X0.here hx rfl (hb hby d11_9) rfl rfl ?_
   show Steps _ _ _ (s₁.setTop (mkF m 10 #[rv u0, rv u1, .unset] [(.ref u1)])) _
   refine st1.trans ?_
   refine XS.istoreN X1.here hx rfl (hb hby d11_13) rfl (l' := #[rv u0, rv u1, iv z]) rfl ?_
   refine XS.aloadN X1.here hx rfl (hb hby d11_14) rfl rfl ?_
   refine XS.aloadN X1.here hx rfl (hb hby d11_15) rfl rfl ?_
   refine st3 _ ?_
   refine XS.iloadN X3.here hx rfl (hb hby d11_19) rfl ?_
   refine XS.iadd X3.here hx rfl (hb hby d11_20) rfl ?_
   exact kt)
  by_cases hc21_4 : (0 : Int32) < ((cnt + z) - cap)
  · obtain ⟨e16, h34b⟩ := own_grow wl wm w34 wc hc21_4
    have G16 : Arv Z h0 bv kb .byte (16 : Int32) bs (.int 0) := by rw [← e16]; exact P_G_bv
    have g16 : (0 : Int32) < ((cnt + z) - (16 : Int32)) := by rw [← e16]; exact hc21_4
    have wi16 : own_in xl (16 : Int32) := by rw [← e16]; exact wi
    obtain ⟨cq7, kq7, q7a, q7b, q7c⟩ := isOf hZ e3 P_E_u0
    obtain ⟨_, _, ⟨T6, L6, k6, n6⟩, -, X6, ⟨Lc6, hQ6, l6, y6, z6⟩, st6⟩ := X3.virtualBack hx (y := own_y16) (z := own_y16) hown (mvT hZ (own_g hw 92 rfl)) (mvT hZ (own_decl (own_g hw 93 rfl) (own_g hw 96 rfl))) (notFace_of_selects (args := #[]) (mvT hZ (own_g hw 95 rfl))) (mvT hZ (own_g hw 95 rfl)) (mvT hZ (own_g hw 93 rfl)) (by decide) (backOf (W := 0) (rmE1 l Z a0 hw [] u0 (cnt + z) bv kb bs cnt xl h0 n0 Z0 P_E_u0 P_F_u0_AbstractStringBuilder_value P_F_u0_AbstractStringBuilder_coder P_F_u0_AbstractStringBuilder_count P_E_bv G16 g16 h34b wh (own_i16 wi16) g_u0) hZ (own_g hw 96 rfl) (own_g hw 59 rfl) (by decide) (by decide)) q7a q7c (g := (mkF m 21 #[rv u0, rv u1, iv z] [(.int (cnt + z)), (.ref u0)])) rfl (by rw [hml]; rfl) (Steps.refl _) (argsL := [(.int (cnt + z))]) (rest := []) (lenOf pd__I_V rfl) rfl (by show 2 * 0 + _ ≤ _; exact Nat.le_of_eq rfl) (hb hby d11_21) (fun _ _ => ⟨rfl, e3, (by decide : 0 + 1 ≤ _), (by decide : 0 + 34 ≤ _)⟩)
    dsimp only [Pt.U, Pt.locs, Pt.cells, Pt.slots] at X6 l6 y6 z6 st6 hQ6
    subst l6 y6 z6
    obtain ⟨t1_6, k1_6, b1_6, rfl, N6q, K6, sx6_0, f8, f9, f10, f11, f12, f13, f14⟩ := hQ6
    have ot1_6 : n0 ≤ t1_6 := Nat.le_trans Z0 sx6_0
    have zt1_6 : h0.size ≤ t1_6 := Nat.le_trans (Keep.refl h0 [u0, bv]).1 sx6_0
    have ne15 : u0 ≠ t1_6 := Nat.ne_of_lt (Nat.lt_of_lt_of_le P_E_u0.lt sx6_0)
    have ne16 : bv ≠ t1_6 := Nat.ne_of_lt (Nat.lt_of_lt_of_le P_E_bv.lt sx6_0)
    have ne17 : u1 ≠ t1_6 := Nat.ne_of_lt (Nat.lt_of_lt_of_le P_E_u1.lt sx6_0)
    have ne18 : tv ≠ t1_6 := Nat.ne_of_lt (Nat.lt_of_lt_of_le P_G_tv.lt sx6_0)
    have KK6 : Keep h0 T6.heap [u0, bv] := Keep.trans (Keep.refl h0 [u0, bv]) K6 (allS (Or.inl (List.mem_of_getElem? (i := 0) rfl)) all0)
    have N6 := Fr.app N1 N6q
    obtain ⟨T19, X19, e19, st19⟩ := getF X6 hx hZ hown (host := "") (Or.inl (own_g hw 90 rfl)) Via.refl rfl f11 (g := (mkF m 26 #[rv u0, rv u1, iv z] [(.ref u0), (.ref u0)])) rfl rfl (hb hby d11_26)
    have f20 := (P_E_u1.keep K6)
    have f21 := (P_F_u1_String_value.keep K6 (ninS neC nin0))
    have f22 := (P_F_u1_String_coder.keep K6 (ninS neC nin0))
    have f23 := (P_G_tv.keep K6 (ninS neB nin0))
    have f24 := (own_staKeep P_S_String_COMPACT_STRINGS K6 (nsS P_E_u0.nostat ns0))
    have f25 := (Nat.le_trans Z0 K6.1)
    obtain ⟨cq27, kq27, q27a, q27b, q27c⟩ := isOf hZ e19 f8
    obtain ⟨_, _, ⟨T26, L26, k26, n26⟩, -, X26, ⟨Lc26, hQ26, l26, y26, z26⟩, st26⟩ := X19.virtualBack hx (y := own_y24) (z := own_y24) hown (mvT hZ (own_g hw 97 rfl)) (mvT hZ (own_decl (own_g hw 98 rfl) (own_g hw 101 rfl))) (notFace_of_selects (args := #[]) (mvT hZ (own_g hw 100 rfl))) (mvT hZ (own_g hw 100 rfl)) (mvT hZ (own_g hw 98 rfl)) (by decide) (backOf (W := 0) (rmPS l Z a0 hw [] u0 cnt u1 tv kt z vs t1_6 k1_6 (34 : Int32) b1_6 cnt xl xm zC T6.heap n0 f25 f8 f9 f10 f11 f12 f13 f20 f21 f22 f23 ne18 f24 hz wl wm (own_fit34 w34) f14.2 f14.1 wM ot1_6) hZ (own_g hw 101 rfl) (own_g hw 59 rfl) (by decide) (by decide)) q27a q27c (g := (mkF m 30 #[rv u0, rv u1, iv z] [(.ref u1), (.int cnt), (.ref u0)])) rfl (by rw [hml]; rfl) (Steps.refl _) (argsL := [(.int cnt), (.ref u1)]) (rest := []) (lenOf pd__ILjava_lang_String__V rfl) rfl (by show 2 * 0 + _ ≤ _; exact Nat.le_of_eq rfl) (hb hby d11_30) (fun _ _ => ⟨rfl, e19, (by decide : 1 + 0 ≤ _), (by decide : 34 + 0 ≤ _)⟩)
    dsimp only [Pt.U, Pt.locs, Pt.cells, Pt.slots] at X26 l26 y26 z26 st26 hQ26
    subst l26 y26 z26
    have f28 := (P_E_bv.keep K6)
    obtain ⟨b2_26, rfl, N26q, K26, f29, f30⟩ := hQ26
    have KK26 : Keep h0 T26.heap [u0, bv] := Keep.trans KK6 K26 (allS (Or.inr zt1_6) all0)
    have N26 := Fr.app N6 N26q
    have f31 := (f11.keep K26 (ninS ne15 nin0))
    obtain ⟨T32, X32, e32, st32⟩ := getF X26 hx hZ hown (host := "") (Or.inl (own_g hw 90 rfl)) Via.refl rfl f31 (g := (mkF m 35 #[rv u0, rv u1, iv z] [(.ref u0), (.ref u0)])) rfl rfl (hb hby d11_35)
    have f33 := (f8.keep K26)
    obtain ⟨T34, h34, X34, e34, W34, st34⟩ := putF X32 hx hZ hown (host := "") (Or.inl (own_g hw 90 rfl)) Via.refl e32 f31 f33 (Or.inl (own_g hw 91 rfl)) (own_g hw 50 rfl) (ty := .int) (by decide) rfl rfl (g := (mkF m 40 #[rv u0, rv u1, iv z] [(.int (cnt + z)), (.ref u0)])) rfl rfl (hb hby d11_40)
    have f34_ : Fld Z h34 u0 "java/lang/AbstractStringBuilder" "count" "I" (.int (cnt + z)) := f31.same W34
    have N35 := Fr.snoc X34 N26 g_u0
    have K36 : Keep h0 h34 [u0, bv] := KK26.wr W34 (Or.inl (List.mem_of_getElem? (i := 0) rfl))
    obtain ⟨fs, hr, hrun, hended, hW, hsame⟩ := X34.leave (v := some (.ref u0)) (fun h => by rw [Bd.returns] at h; cases h)
    have f37 := (f33.wr W34)
    have f38 := ((f9.keep K26 (ninS ne15 nin0)).other W34 (Or.inr (slot_ne (Or.inl (own_g hw 64 rfl)) (Or.inl (own_g hw 91 rfl)) (by decide) (t := (.array .byte)) (t' := .int) (by decide) (by decide))))
    have f39 := ((f10.keep K26 (ninS ne15 nin0)).other W34 (Or.inr (slot_ne (Or.inl (own_g hw 66 rfl)) (Or.inl (own_g hw 91 rfl)) (by decide) (t := .byte) (t' := .int) (by decide) (by decide))))
    have f40 := ((f12.keep K26).wr W34)
    have f41 := (f29.other W34 (Ne.symm ne15))
    refine ⟨_, _, pre5 _ ?_, hrun, hended, _, _, rfl, ?_, ⟨_, rfl⟩, hW, hsame.mono (by decide) (by decide)⟩
    · show Steps _ _ _ (T3.setTop (mkF m 21 #[rv u0, rv u1, iv z] [(.int (cnt + z)), (.ref u0)])) _
      refine st6.trans ?_
      refine XS.aloadN X6.here hx rfl (hb hby d11_24) rfl rfl ?_
      refine XS.aloadN X6.here hx rfl (hb hby d11_25) rfl rfl ?_
      refine st19 _ ?_
      refine XS.aloadN X19.here hx rfl (hb hby d11_29) rfl rfl ?_
      show Steps _ _ _ (T19.setTop (mkF m 30 #[rv u0, rv u1, iv z] [(.ref u1), (.int cnt), (.ref u0)])) _
      refine st26.trans ?_
      refine XS.aloadN X26.here hx rfl (hb hby d11_33) rfl rfl ?_
      refine XS.dup X26.here hx rfl (hb hby d11_34) rfl rfl ?_
      refine st32 _ ?_
      refine XS.iloadN X32.here hx rfl (hb hby d11_38) rfl ?_
      refine XS.iadd X32.here hx rfl (hb hby d11_39) rfl ?_
      refine st34 _ ?_
      refine XS.aloadN X34.here hx rfl (hb hby d11_43) rfl rfl ?_
      show Steps _ _ _ (T34.setTop (mkF m 44 #[rv u0, rv u1, iv z] [(.ref u0)])) _
      exact retOut X34 hx Bd.returns rfl (Or.inr (Or.inr (Or.inr (Or.inr ⟨rfl, rfl, rfl⟩)))) (hb hby d11_44) hr
    · show Q_rmAp Z u0 u1 tv kt z vs bv kb cap bs cnt xl xm zC h0 n0 _ T34.heap _
      rw [e34]
      exact ⟨t1_6, k1_6, (34 : Int32), b2_26, (cnt + z), rfl, N35, K36, f37, f38, f39, f34_, f40, f41, f30, ⟨own_lapp wl wm w34, own_fin (own_fit34 w34)⟩, (Or.inr zt1_6)⟩
  · obtain ⟨cq43, kq43, q43a, q43b, q43c⟩ := isOf hZ e3 P_E_u0
    obtain ⟨_, _, ⟨T42, L42, k42, n42⟩, -, X42, ⟨Lc42, hQ42, l42, y42, z42⟩, st42⟩ := X3.virtualBack hx (y := own_y16) (z := own_y16) hown (mvT hZ (own_g hw 92 rfl)) (mvT hZ (own_decl (own_g hw 93 rfl) (own_g hw 96 rfl))) (notFace_of_selects (args := #[]) (mvT hZ (own_g hw 95 rfl))) (mvT hZ (own_g hw 95 rfl)) (mvT hZ (own_g hw 93 rfl)) (by decide) (backOf (W := 0) (rmE0 l Z a0 hw [] u0 (cnt + z) bv kb cap bs cnt h0 n0 Z0 P_E_u0 P_F_u0_AbstractStringBuilder_value P_F_u0_AbstractStringBuilder_coder P_F_u0_AbstractStringBuilder_count P_E_bv P_G_bv hc21_4) hZ (own_g hw 96 rfl) (own_g hw 59 rfl) (by decide) (by decide)) q43a q43c (g := (mkF m 21 #[rv u0, rv u1, iv z] [(.int (cnt + z)), (.ref u0)])) rfl (by rw [hml]; rfl) (Steps.refl _) (argsL := [(.int (cnt + z))]) (rest := []) (lenOf pd__I_V rfl) rfl (by show 2 * 0 + _ ≤ _; exact Nat.le_of_eq rfl) (hb hby d11_21) (fun _ _ => ⟨rfl, e3, (by decide : 0 + 0 ≤ _), (by decide : 0 + 0 ≤ _)⟩)
    dsimp only [Pt.U, Pt.locs, Pt.cells, Pt.slots] at X42 l42 y42 z42 st42 hQ42
    subst l42 y42 z42
    obtain ⟨rfl, N42q, e42⟩ := hQ42
    have N42 := Fr.app N1 N42q
    obtain ⟨T44, X44, e44, st44⟩ := getF X42 hx hZ hown (host := "") (Or.inl (own_g hw 90 rfl)) Via.refl e42 P_F_u0_AbstractStringBuilder_count (g := (mkF m 26 #[rv u0, rv u1, iv z] [(.ref u0), (.ref u0)])) rfl rfl (hb hby d11_26)
    obtain ⟨cq46, kq46, q46a, q46b, q46c⟩ := isOf hZ e44 P_E_u0
    obtain ⟨_, _, ⟨T45, L45, k45, n45⟩, -, X45, ⟨Lc45, hQ45, l45, y45, z45⟩, st45⟩ := X44.virtualBack hx (y := own_y24) (z := own_y24) hown (mvT hZ (own_g hw 97 rfl)) (mvT hZ (own_decl (own_g hw 98 rfl) (own_g hw 101 rfl))) (notFace_of_selects (args := #[]) (mvT hZ (own_g hw 100 rfl))) (mvT hZ (own_g hw 100 rfl)) (mvT hZ (own_g hw 98 rfl)) (by decide) (backOf (W := 0) (rmPS l Z a0 hw [] u0 cnt u1 tv kt z vs bv kb cap bs cnt xl xm zC h0 n0 Z0 P_E_u0 P_F_u0_AbstractStringBuilder_value P_F_u0_AbstractStringBuilder_coder P_F_u0_AbstractStringBuilder_count P_E_bv P_G_bv P_E_u1 P_F_u1_String_value P_F_u1_String_coder P_G_tv neA P_S_String_COMPACT_STRINGS hz wl wm (own_nogrow wl wm w34 wc hc21_4) wc wh wM g_bv) hZ (own_g hw 101 rfl) (own_g hw 59 rfl) (by decide) (by decide)) q46a q46c (g := (mkF m 30 #[rv u0, rv u1, iv z] [(.ref u1), (.int cnt), (.ref u0)])) rfl (by rw [hml]; rfl) (Steps.refl _) (argsL := [(.int cnt), (.ref u1)]) (rest := []) (lenOf pd__ILjava_lang_String__V rfl) rfl (by show 2 * 0 + _ ≤ _; exact Nat.le_of_eq rfl) (hb hby d11_30) (fun _ _ => ⟨rfl, e44, (by decide : 0 + 0 ≤ _), (by decide : 0 + 0 ≤ _)⟩)
    dsimp only [Pt.U, Pt.locs, Pt.cells, Pt.slots] at X45 l45 y45 z45 st45 hQ45
    subst l45 y45 z45
    obtain ⟨b2_45, rfl, N45q, K45, f47, f48⟩ := hQ45
    have KK45 : Keep h0 T45.heap [u0, bv] := Keep.trans (Keep.refl h0 [u0, bv]) K45 (allS (Or.inl (List.mem_of_getElem? (i := 1) rfl)) all0)
    have N45 := Fr.app N42 N45q
    have f49 := (P_F_u0_AbstractStringBuilder_count.keep K45 (ninS (Ne.symm neE) nin0))
    obtain ⟨T50, X50, e50, st50⟩ := getF X45 hx hZ hown (host := "") (Or.inl (own_g hw 90 rfl)) Via.refl rfl f49 (g := (mkF m 35 #[rv u0, rv u1, iv z] [(.ref u0), (.ref u0)])) rfl rfl (hb hby d11_35)
    have f51 := (P_E_u0.keep K45)
    obtain ⟨T52, h52, X52, e52, W52, st52⟩ := putF X50 hx hZ hown (host := "") (Or.inl (own_g hw 90 rfl)) Via.refl e50 f49 f51 (Or.inl (own_g hw 91 rfl)) (own_g hw 50 rfl) (ty := .int) (by decide) rfl rfl (g := (mkF m 40 #[rv u0, rv u1, iv z] [(.int (cnt + z)), (.ref u0)])) rfl rfl (hb hby d11_40)
    have f52_ : Fld Z h52 u0 "java/lang/AbstractStringBuilder" "count" "I" (.int (cnt + z)) := f49.same W52
    have N53 := Fr.snoc X52 N45 g_u0
    have K54 : Keep h0 h52 [u0, bv] := KK45.wr W52 (Or.inl (List.mem_of_getElem? (i := 0) rfl))
    obtain ⟨fs, hr, hrun, hended, hW, hsame⟩ := X52.leave (v := some (.ref u0)) (fun h => by rw [Bd.returns] at h; cases h)
    have f55 := (f51.wr W52)
    have f56 := ((P_F_u0_AbstractStringBuilder_value.keep K45 (ninS (Ne.symm neE) nin0)).other W52 (Or.inr (slot_ne (Or.inl (own_g hw 64 rfl)) (Or.inl (own_g hw 91 rfl)) (by decide) (t := (.array .byte)) (t' := .int) (by decide) (by decide))))
    have f57 := ((P_F_u0_AbstractStringBuilder_coder.keep K45 (ninS (Ne.symm neE) nin0)).other W52 (Or.inr (slot_ne (Or.inl (own_g hw 66 rfl)) (Or.inl (own_g hw 91 rfl)) (by decide) (t := .byte) (t' := .int) (by decide) (by decide))))
    have f58 := ((P_E_bv.keep K45).wr W52)
    have f59 := (f47.other W52 neE)
    refine ⟨_, _, pre5 _ ?_, hrun, hended, _, _, rfl, ?_, ⟨_, rfl⟩, hW, hsame.mono (by decide) (by decide)⟩
    · show Steps _ _ _ (T3.setTop (mkF m 21 #[rv u0, rv u1, iv z] [(.int (cnt + z)), (.ref u0)])) _
      refine st42.trans ?_
      refine XS.aloadN X42.here hx rfl (hb hby d11_24) rfl rfl ?_
      refine XS.aloadN X42.here hx rfl (hb hby d11_25) rfl rfl ?_
      refine st44 _ ?_
      show Steps _ _ _ (T44.setTop (mkF m 29 #[rv u0, rv u1, iv z] [(.int cnt), (.ref u0)])) _
      refine XS.aloadN X44.here hx rfl (hb hby d11_29) rfl rfl ?_
      show Steps _ _ _ (T44.setTop (mkF m 30 #[rv u0, rv u1, iv z] [(.ref u1), (.int cnt), (.ref u0)])) _
      refine st45.trans ?_
      refine XS.aloadN X45.here hx rfl (hb hby d11_33) rfl rfl ?_
      refine XS.dup X45.here hx rfl (hb hby d11_34) rfl rfl ?_
      refine st50 _ ?_
      refine XS.iloadN X50.here hx rfl (hb hby d11_38) rfl ?_
      refine XS.iadd X50.here hx rfl (hb hby d11_39) rfl ?_
      refine st52 _ ?_
      refine XS.aloadN X52.here hx rfl (hb hby d11_43) rfl rfl ?_
      show Steps _ _ _ (T52.setTop (mkF m 44 #[rv u0, rv u1, iv z] [(.ref u0)])) _
      exact retOut X52 hx Bd.returns rfl (Or.inr (Or.inr (Or.inr (Or.inr ⟨rfl, rfl, rfl⟩)))) (hb hby d11_44) hr
    · show Q_rmAp Z u0 u1 tv kt z vs bv kb cap bs cnt xl xm zC h0 n0 _ T52.heap _
      rw [e52]
      exact ⟨bv, kb, cap, b2_45, (cnt + z), rfl, N53, K54, f55, f56, f57, f52_, f58, f59, f48, ⟨own_lapp wl wm w34, own_fin (own_nogrow wl wm w34 wc hc21_4)⟩, (Or.inl rfl)⟩

theorem ef_rmBp (m : MethodId) (x0 : Addr) (x1 : Addr) : entryFrame m #[(.ref x0), (.ref x1)] 2 = mkF m 0 #[rv x0, rv x1] [] := by first | (simp [entryFrame, mkF, argsToLocals, Value.category]; done) | rfl
def Q_rmBp (Z : State) (u0 : Addr) (u1 : Addr) (tv : Addr) (kt : ClassId) (z : Int32) (vs : List Value) (bv : Addr) (kb : ClassId) (cap : Int32) (bs : List Value) (cnt : Int32) (xl : List Int32) (xm : List Int32) (zC : Int32) (h0 : Heap) (n0 : Nat) (v : Option Value) (h : Heap) (L : List Loc) : Prop := ∃ (t2 : Jvm.Addr), ∃ (k2 : ClassId), ∃ (cap2 : Int32), ∃ (b2 : List Value), ∃ (cn2 : Int32), (v = (some (.ref u0)) ∧ Fr n0 L ∧ Keep h0 h [u0, bv] ∧ Exa Z h u0 "java/lang/StringBuilder" ∧ Fld Z h u0 "java/lang/AbstractStringBuilder" "value" "[B" (.ref t2) ∧ Fld Z h u0 "java/lang/AbstractStringBuilder" "coder" "B" (.int (0 : Int32)) ∧ Fld Z h u0 "java/lang/AbstractStringBuilder" "count" "I" (.int cn2) ∧ Exa Z h t2 "[B" ∧ Arv Z h t2 k2 .byte cap2 b2 (.int 0) ∧ (own_has b2 (xl ++ xm) ∧ own_cap cap2 b2) ∧ (own_len (xl ++ xm) cn2 ∧ own_in (xl ++ xm) cap2) ∧ ((t2 = bv ∨ h0.size ≤ t2)))
set_option maxRecDepth 65536 in
set_option maxHeartbeats 40000000 in
theorem rmBp (l : Launch) (Z : State) (a0 : Array Value) (hw : ∀ d ∈ tables_1, d.before a0 Z = true) (ws : List Jvm.Cond) (u0 : Addr) (u1 : Addr) (tv : Addr) (kt : ClassId) (z : Int32) (vs : List Value) (bv : Addr) (kb : ClassId) (cap : Int32) (bs : List Value) (cnt : Int32) (xl : List Int32) (xm : List Int32) (zC : Int32) (h0 : Heap) (n0 : Nat) (Z0 : n0 ≤ h0.size) (P_E_u0 : Exa Z h0 u0 "java/lang/StringBuilder") (P_F_u0_AbstractStringBuilder_value : Fld Z h0 u0 "java/lang/AbstractStringBuilder" "value" "[B" (.ref bv)) (P_F_u0_AbstractStringBuilder_coder : Fld Z h0 u0 "java/lang/AbstractStringBuilder" "coder" "B" (.int (0 : Int32))) (P_F_u0_AbstractStringBuilder_count : Fld Z h0 u0 "java/lang/AbstractStringBuilder" "count" "I" (.int cnt)) (P_E_bv : Exa Z h0 bv "[B") (P_G_bv : Arv Z h0 bv kb .byte cap bs (.int 0)) (P_E_u1 : Exa Z h0 u1 "java/lang/String") (P_F_u1_String_value : Fld Z h0 u1 "java/lang/String" "value" "[B" (.ref tv)) (P_F_u1_String_coder : Fld Z h0 u1 "java/lang/String" "coder" "B" (.int (0 : Int32))) (P_G_tv : Arv Z h0 tv kt .byte z vs (.int 0)) (neB : tv ≠ u0) (neA : tv ≠ bv) (neC : u1 ≠ u0) (neD : u1 ≠ bv) (neE : bv ≠ u0) (P_S_String_COMPACT_STRINGS : Sta Z h0 "java/lang/String" "COMPACT_STRINGS" "Z" (.int zC)) (hz : ¬ (zC = (0 : Int32))) (wi : own_in xl cap) (wl : own_len xl cnt) (wm : own_len xm z) (w34 : xl.length + xm.length ≤ 34) (wc : own_cap cap bs) (wh : own_has bs xl) (wM : own_has vs xm) (g_u0 : n0 ≤ u0) (g_bv : n0 ≤ bv) :
    own_MF l own_y26 (Jvm.Cond.code own_y26 jdk_67_method_7_code 2 (some (.object "java/lang/StringBuilder"))) ws ({ frames := 5, cells := 1, slots := 34, locals := 76 } : Room) #[(.ref u0), (.ref u1)] Z h0 (Q_rmBp Z u0 u1 tv kt z vs bv kb cap bs cnt xl xm zC h0 n0) := by
  refine MetFree.of_bodySF (plainFor_of_name pn_10) hisR ?_
  intro p e s m args below meth c s₁ Bd hml0 hP hK
  obtain ⟨rfl, hZ, hh⟩ := hP
  have hx := Bd.exec
  have hby := Bd.bytes
  have hml : c.maxLocals = 2 := hml0
  have hown : s.vm.findClass "java/lang/StringBuilder" = some m.cls := findClass_of_methodNamed Bd.named
  have hnm := (name_of_methodNamed Bd.named Bd.method).1
  have X0 : Stand p l e ({ frames := 5, cells := 1, slots := 34, locals := 76 } : Room) s m #[(.ref u0), (.ref u1)] below meth c s₁ [] 0 0 := Stand.of_body Bd
  have e0 : s₁.heap = h0 := by rw [← hh, Bd.state]; rfl
  have N0 := Fr.nil n0
  have pre0 : ∀ t, Steps p.tables e below (s₁.setTop (mkF m 0 #[rv u0, rv u1] [])) t → Steps p.tables e below (s₁.setTop (entryFrame m #[(.ref u0), (.ref u1)] 2)) t := fun t k => castTop (ef_rmBp m u0 u1) k
  obtain ⟨_, _, ⟨T1, L1, k1, n1⟩, -, X1, ⟨Lc1, hQ1, l1, y1, z1⟩, st1⟩ := superBack X0 hx hZ (y := own_y25) hown (own_g hw 75 rfl) (own_same (y' := own_y16) (C := "java/lang/StringBuilder") (own_g hw 76 rfl) (own_g hw 79 rfl) (own_g hw 95 rfl) rfl (by decide)) (own_g hw 76 rfl) (own_g hw 77 rfl) (by decide) (backOf (W := 0) (rmAp l Z a0 hw [] u0 u1 tv kt z vs bv kb cap bs cnt xl xm zC h0 n0 Z0 P_E_u0 P_F_u0_AbstractStringBuilder_value P_F_u0_AbstractStringBuilder_coder P_F_u0_AbstractStringBuilder_count P_E_bv P_G_bv P_E_u1 P_F_u1_String_value P_F_u1_String_coder P_G_tv neB neA neC neD neE P_S_String_COMPACT_STRINGS hz wi wl wm w34 wc wh wM g_u0 g_bv) hZ (own_g hw 79 rfl) (own_g hw 59 rfl) (by decide) (by decide)) e0 (Ins.self P_E_u0) (g := (mkF m 2 #[rv u0, rv u1] [(.ref u1), (.ref u0)])) rfl (by rw [hml]; rfl) (own_g hw 79 rfl) (argsL := [(.ref u1)]) (rest := []) (lenOf pd__Ljava_lang_String__Ljava_lang_AbstractStringBuilder_ rfl) rfl (by show 2 * 0 + _ ≤ _; exact Nat.le_of_eq rfl) (hb hby d10_2) (fun _ _ => ⟨rfl, e0, (by decide : 0 + 1 ≤ _), (by decide : 0 + 34 ≤ _)⟩)
  dsimp only [Pt.U, Pt.locs, Pt.cells, Pt.slots] at X1 l1 y1 z1 st1 hQ1
  subst l1 y1 z1
  obtain ⟨t2_1, k2_1, cap2_1, b2_1, cn2_1, rfl, N1q, K1, f2, f3, f4, f5, f6, f7, f8, f9, f10⟩ := hQ1
  have KK1 : Keep h0 T1.heap [u0, bv] := Keep.trans (Keep.refl h0 [u0, bv]) K1 (allS (Or.inl (List.mem_of_getElem? (i := 0) rfl)) (allS (Or.inl (List.mem_of_getElem? (i := 1) rfl)) all0))
  have N1 := Fr.app N0 N1q
  have oq11 : n0 ≤ t2_1 := own_orc f10 g_bv (fun e_ => Nat.le_trans Z0 e_)
  have nq12 : u0 ≠ t2_1 := own_orn f10 (Ne.symm neE) (fun e_ => Nat.ne_of_lt (Nat.lt_of_lt_of_le P_E_u0.lt e_))
  have nq13 : u1 ≠ t2_1 := own_orn f10 neD (fun e_ => Nat.ne_of_lt (Nat.lt_of_lt_of_le P_E_u1.lt e_))
  have nq14 : tv ≠ t2_1 := own_orn f10 neA (fun e_ => Nat.ne_of_lt (Nat.lt_of_lt_of_le P_G_tv.lt e_))
  obtain ⟨fs, hr, hrun, hended, hW, hsame⟩ := X1.leave (v := some (.ref u0)) (fun h => by rw [Bd.returns] at h; cases h)
  refine ⟨_, _, pre0 _ ?_, hrun, hended, _, _, rfl, ?_, ⟨_, rfl⟩, hW, hsame.mono (by decide) (by decide)⟩
  · refine XS.aloadN X0.here hx rfl (hb hby d10_0) rfl rfl ?_
    refine XS.aloadN X0.here hx rfl (hb hby d10_1) rfl rfl ?_
    show Steps _ _ _ (s₁.setTop (mkF m 2 #[rv u0, rv u1] [(.ref u1), (.ref u0)])) _
    refine st1.trans ?_
    refine XS.pop X1.here hx rfl (hb hby d10_5) rfl rfl ?_
    refine XS.aloadN X1.here hx rfl (hb hby d10_6) rfl rfl ?_
    show Steps _ _ _ (T1.setTop (mkF m 7 #[rv u0, rv u1] [(.ref u0)])) _
    exact retOut X1 hx Bd.returns rfl (Or.inr (Or.inr (Or.inr (Or.inr ⟨rfl, rfl, rfl⟩)))) (hb hby d10_7) hr
  · show Q_rmBp Z u0 u1 tv kt z vs bv kb cap bs cnt xl xm zC h0 n0 _ T1.heap _
    exact ⟨t2_1, k2_1, cap2_1, b2_1, cn2_1, rfl, N1, KK1, f2, f3, f4, f5, f6, f7, f8, f9, f10⟩

theorem ef_rmI5 (m : MethodId) (x0 : Addr) (x1 : Addr) : entryFrame m #[(.ref x0), (.ref x1), .null] 5 = mkF m 0 #[rv x0, rv x1, .val .null, .unset, .unset] [] := by first | (simp [entryFrame, mkF, argsToLocals, Value.category]; done) | rfl
def Q_rmI5 (Z : State) (u0 : Addr) (u1 : Addr) (bv : Addr) (kb : ClassId) (cap : Int32) (bs : List Value) (cnt : Int32) (xl : List Int32) (zC : Int32) (h0 : Heap) (n0 : Nat) (v : Option Value) (h : Heap) (L : List Loc) : Prop := ∃ (yv : Addr), ∃ (ky : ClassId), ∃ (ys : List Value), (v = none ∧ Fr n0 L ∧ Keep h0 h [u0] ∧ h0.size ≤ yv ∧ Exa Z h u0 "java/lang/String" ∧ Fld Z h u0 "java/lang/String" "value" "[B" (.ref yv) ∧ Fld Z h u0 "java/lang/String" "coder" "B" (.int (0 : Int32)) ∧ Exa Z h yv "[B" ∧ Arv Z h yv ky .byte cnt ys (.int 0) ∧ (own_has ys xl))
set_option maxRecDepth 65536 in
set_option maxHeartbeats 40000000 in
theorem rmI5 (l : Launch) (Z : State) (a0 : Array Value) (hw : ∀ d ∈ tables_1, d.before a0 Z = true) (ws : List Jvm.Cond) (u0 : Addr) (u1 : Addr) (bv : Addr) (kb : ClassId) (cap : Int32) (bs : List Value) (cnt : Int32) (xl : List Int32) (zC : Int32) (h0 : Heap) (n0 : Nat) (Z0 : n0 ≤ h0.size) (P_E_u0 : Exa Z h0 u0 "java/lang/String") (P_F_u0_String_value : Fld Z h0 u0 "java/lang/String" "value" "[B" .null) (P_F_u0_String_coder : Fld Z h0 u0 "java/lang/String" "coder" "B" (.int (0 : Int32))) (P_E_u1 : Exa Z h0 u1 "java/lang/StringBuilder") (P_F_u1_AbstractStringBuilder_value : Fld Z h0 u1 "java/lang/AbstractStringBuilder" "value" "[B" (.ref bv)) (P_F_u1_AbstractStringBuilder_coder : Fld Z h0 u1 "java/lang/AbstractStringBuilder" "coder" "B" (.int (0 : Int32))) (P_F_u1_AbstractStringBuilder_count : Fld Z h0 u1 "java/lang/AbstractStringBuilder" "count" "I" (.int cnt)) (P_E_bv : Exa Z h0 bv "[B") (P_G_bv : Arv Z h0 bv kb .byte cap bs (.int 0)) (neA : u0 ≠ u1) (neB : u0 ≠ bv) (P_S_String_COMPACT_STRINGS : Sta Z h0 "java/lang/String" "COMPACT_STRINGS" "Z" (.int zC)) (hz : ¬ (zC = (0 : Int32))) (wi : own_in xl cap) (wl : own_len xl cnt) (w34 : xl.length ≤ 34) (wc : own_cap cap bs) (wh : own_has bs xl) (g_u0 : n0 ≤ u0) :
    own_MF l own_y27 (Jvm.Cond.code own_y27 jdk_42_method_150_code 5 none) ws ({ frames := 3, cells := 1, slots := 34, locals := 49 } : Room) #[(.ref u0), (.ref u1), .null] Z h0 (Q_rmI5 Z u0 u1 bv kb cap bs cnt xl zC h0 n0) := by
  refine MetFree.of_bodySF (plainFor_of_name pn_25) hisR ?_
  intro p e s m args below meth c s₁ Bd hml0 hP hK
  obtain ⟨rfl, hZ, hh⟩ := hP
  have hx := Bd.exec
  have hby := Bd.bytes
  have hml : c.maxLocals = 5 := hml0
  have hown : s.vm.findClass "java/lang/String" = some m.cls := findClass_of_methodNamed Bd.named
  have hnm := (name_of_methodNamed Bd.named Bd.method).1
  have X0 : Stand p l e ({ frames := 3, cells := 1, slots := 34, locals := 49 } : Room) s m #[(.ref u0), (.ref u1), .null] below meth c s₁ [] 0 0 := Stand.of_body Bd
  have e0 : s₁.heap = h0 := by rw [← hh, Bd.state]; rfl
  have N0 := Fr.nil n0
  have pre0 : ∀ t, Steps p.tables e below (s₁.setTop (mkF m 0 #[rv u0, rv u1, .val .null, .unset, .unset] [])) t → Steps p.tables e below (s₁.setTop (entryFrame m #[(.ref u0), (.ref u1), .null] 5)) t := fun t k => castTop (ef_rmI5 m u0 u1) k
  obtain ⟨T1, X1, e1, st1⟩ := initO X0 hx hZ hown (own_g hw 23 rfl) (own_g hw 24 rfl) (own_g hw 25 rfl) e0 (g := (mkF m 1 #[rv u0, rv u1, .val .null, .unset, .unset] [(.ref u0)])) rfl (by rw [hml]; rfl) rfl (hb hby d25_1) (by decide) (W := 0) (by show 2 * 0 + _ ≤ _; exact Nat.le_of_eq rfl) (by decide)
  obtain ⟨cq3, kq3, q3a, q3b, q3c⟩ := isOf hZ e1 P_E_u1
  obtain ⟨_, _, ⟨T2, L2, k2, n2⟩, -, X2, ⟨Lc2, hQ2, l2, y2, z2⟩, st2⟩ := X1.virtualBack hx (y := own_y14) (z := own_y14) hown (mvT hZ (own_g hw 154 rfl)) (mvT hZ (own_g hw 155 rfl)) (notFace_of_selects (args := #[]) (mvT hZ (own_g hw 157 rfl))) (mvT hZ (own_g hw 157 rfl)) (mvT hZ (own_g hw 156 rfl)) (by decide) (backOf (W := 0) (rmGV l Z a0 hw [] u1 bv h0 n0 Z0 P_E_u1 P_F_u1_AbstractStringBuilder_value) hZ (own_g hw 158 rfl) (own_g hw 59 rfl) (by decide) (by decide)) q3a q3c (g := (mkF m 5 #[rv u0, rv u1, .val .null, .unset, .unset] [(.ref u1)])) rfl (by rw [hml]; rfl) (Steps.refl _) (argsL := []) (rest := []) (lenOf pd____B rfl) rfl (by show 2 * 0 + _ ≤ _; exact Nat.le_of_eq rfl) (hb hby d25_5) (fun _ _ => ⟨rfl, e1, (by decide : 0 + 0 ≤ _), (by decide : 0 + 0 ≤ _)⟩)
  dsimp only [Pt.U, Pt.locs, Pt.cells, Pt.slots] at X2 l2 y2 z2 st2 hQ2
  subst l2 y2 z2
  obtain ⟨rfl, N2q, e2⟩ := hQ2
  have N2 := Fr.app N0 N2q
  obtain ⟨cq5, kq5, q5a, q5b, q5c⟩ := isOf hZ e2 P_E_u1
  obtain ⟨_, _, ⟨T4, L4, k4, n4⟩, -, X4, ⟨Lc4, hQ4, l4, y4, z4⟩, st4⟩ := X2.virtualBack hx (y := own_y15) (z := own_y17) hown (mvT hZ (own_g hw 159 rfl)) (mvT hZ (own_g hw 160 rfl)) (own_nf (args := #[]) (y' := own_y16) (C := "java/lang/StringBuilder") (mvT hZ (own_g hw 95 rfl)) rfl) (mvT hZ (own_g hw 162 rfl)) (mvT hZ (own_g hw 163 rfl)) (by decide) (backOf (W := 0) (rmBL l Z a0 hw [] u1 cnt h0 n0 Z0 P_E_u1 P_F_u1_AbstractStringBuilder_count) hZ (own_g hw 164 rfl) (own_g hw 51 rfl) (by decide) (by decide)) q5a q5c (g := (mkF m 10 #[rv u0, rv u1, .val .null, rv bv, .unset] [(.ref u1)])) rfl (by rw [hml]; rfl) (Steps.refl _) (argsL := []) (rest := []) (lenOf pd___I rfl) rfl (by show 2 * 0 + _ ≤ _; exact Nat.le_of_eq rfl) (hb hby d25_10) (fun _ _ => ⟨rfl, e2, (by decide : 0 + 0 ≤ _), (by decide : 0 + 0 ≤ _)⟩)
  dsimp only [Pt.U, Pt.locs, Pt.cells, Pt.slots] at X4 l4 y4 z4 st4 hQ4
  subst l4 y4 z4
  obtain ⟨rfl, N4q, e4⟩ := hQ4
  have N4 := Fr.app N2 N4q
  obtain ⟨cq7, kq7, q7a, q7b, q7c⟩ := isOf hZ e4 P_E_u1
  obtain ⟨_, _, ⟨T6, L6, k6, n6⟩, -, X6, ⟨Lc6, hQ6, l6, y6, z6⟩, st6⟩ := X4.virtualBack hx (y := own_y18) (z := own_y18) hown (mvT hZ (own_g hw 167 rfl)) (mvT hZ (own_g hw 168 rfl)) (notFace_of_selects (args := #[]) (mvT hZ (own_g hw 170 rfl))) (mvT hZ (own_g hw 170 rfl)) (mvT hZ (own_g hw 169 rfl)) (by decide) (backOf (W := 0) (rmIL l Z a0 hw [] u1 zC h0 n0 Z0 P_E_u1 P_F_u1_AbstractStringBuilder_coder P_S_String_COMPACT_STRINGS hz) hZ (own_g hw 171 rfl) (own_g hw 59 rfl) (by decide) (by decide)) q7a q7c (g := (mkF m 16 #[rv u0, rv u1, .val .null, rv bv, iv cnt] [(.ref u1)])) rfl (by rw [hml]; rfl) (Steps.refl _) (argsL := []) (rest := []) (lenOf pd___Z rfl) rfl (by show 2 * 0 + _ ≤ _; exact Nat.le_of_eq rfl) (hb hby d25_16) (fun _ _ => ⟨rfl, e4, (by decide : 0 + 0 ≤ _), (by decide : 0 + 0 ≤ _)⟩)
  dsimp only [Pt.U, Pt.locs, Pt.cells, Pt.slots] at X6 l6 y6 z6 st6 hQ6
  subst l6 y6 z6
  obtain ⟨rfl, N6q, e6⟩ := hQ6
  have N6 := Fr.app N4 N6q
  obtain ⟨T8, h8, X8, e8, W8, st8⟩ := putFN X6 hx hZ hown (own_g hw 38 rfl) Via.refl e6 P_F_u0_String_coder P_E_u0 (Or.inr ⟨(own_g hw 39 rfl), rfl, hnm⟩) (own_g hw 13 rfl) (ty := .byte) (v' := (.int (0 : Int32))) (by decide) rfl rfl (g := (mkF m 24 #[rv u0, rv u1, .val .null, rv bv, iv cnt] [(.int (0 : Int32)), (.ref u0)])) rfl rfl (hb hby d25_24)
  have f8_ : Fld Z h8 u0 "java/lang/String" "coder" "B" (.int (0 : Int32)) := P_F_u0_String_coder.same W8
  have N9 := Fr.snoc X8 N6 g_u0
  have K10 : Keep h0 h8 [u0] := (Keep.refl h0 [u0]).wr W8 (Or.inl (List.mem_of_getElem? (i := 0) rfl))
  have f11 := (P_E_bv.wr W8)
  have f12 := (P_G_bv.other W8 (Ne.symm neB))
  have f13 := (Nat.le_trans Z0 (Keep.of_wr W8).1)
  obtain ⟨_, _, ⟨T14, L14, k14, n14⟩, -, X14, ⟨Lc14, hQ14, l14, y14, z14⟩, st14⟩ := Jvm.LawKit.callS X8 hx (y := own_y11) hown (mvT hZ (own_g hw 172 rfl)) (mvT hZ (own_g hw 173 rfl)) (mvT hZ (own_g hw 136 rfl)) (mvT hZ (own_g hw 174 rfl)) (by decide) (backOf (W := 1) (rmRA l Z a0 hw [] bv cnt kb cap bs xl h8 n0 f13 f11 f12 wh wl w34 wi wc) hZ (own_g hw 174 rfl) (own_g hw 136 rfl) (by decide) (by decide)) (g := (mkF m 32 #[rv u0, rv u1, .val .null, rv bv, iv cnt] [(.int cnt), (.int (0 : Int32)), (.ref bv), (.ref u0)])) rfl (by rw [hml]; rfl) (argsL := [(.ref bv), (.int (0 : Int32)), (.int cnt)]) (rest := [(.ref u0)]) (lenOf pd___BII__B rfl) rfl (by show 2 * 0 + _ ≤ _; exact Nat.le_of_eq rfl) (hb hby d25_32) (fun _ _ => ⟨rfl, e8, (by decide : 0 + 1 ≤ _), (by decide : 0 + 34 ≤ _)⟩)
  dsimp only [Pt.U, Pt.locs, Pt.cells, Pt.slots] at X14 l14 y14 z14 st14 hQ14
  subst l14 y14 z14
  have f15 := (P_E_u0.wr W8)
  have f16 := (P_E_u1.wr W8)
  obtain ⟨yv_14, ky_14, ys_14, rfl, N14q, K14, sx14_0, f17, f18, f19⟩ := hQ14
  have oyv_14 : n0 ≤ yv_14 := Nat.le_trans f13 sx14_0
  have zyv_14 : h0.size ≤ yv_14 := Nat.le_trans K10.1 sx14_0
  have ne20 : u0 ≠ yv_14 := Nat.ne_of_lt (Nat.lt_of_lt_of_le f15.lt sx14_0)
  have ne21 : u1 ≠ yv_14 := Nat.ne_of_lt (Nat.lt_of_lt_of_le f16.lt sx14_0)
  have ne22 : bv ≠ yv_14 := Nat.ne_of_lt (Nat.lt_of_lt_of_le f11.lt sx14_0)
  have KK14 : Keep h0 T14.heap [u0] := Keep.trans K10 K14 all0
  have N14 := Fr.app N9 N14q
  have f23 := (f15.keep K14)
  have f24 := ((P_F_u0_String_value.other W8 (Or.inr (slot_ne (Or.inr (own_g hw 41 rfl)) (Or.inr (own_g hw 39 rfl)) (by decide) (t := (.array .byte)) (t' := .byte) (by decide) (by decide)))).keep K14 nin0)
  obtain ⟨T25, h25, X25, e25, W25, st25⟩ := putF X14 hx hZ hown (host := "") (Or.inl (own_g hw 40 rfl)) Via.refl rfl f24 f23 (Or.inr ⟨(own_g hw 41 rfl), rfl, hnm⟩) (own_g hw 13 rfl) (ty := (.array .byte)) (by decide) rfl rfl (g := (mkF m 35 #[rv u0, rv u1, .val .null, rv bv, iv cnt] [(.ref yv_14), (.ref u0)])) rfl rfl (hb hby d25_35)
  have f25_ : Fld Z h25 u0 "java/lang/String" "value" "[B" (.ref yv_14) := f24.same W25
  have N26 := Fr.snoc X25 N14 g_u0
  have K27 : Keep h0 h25 [u0] := KK14.wr W25 (Or.inl (List.mem_of_getElem? (i := 0) rfl))
  obtain ⟨fs, hr, hrun, hended, hW, hsame⟩ := X25.leave (v := none) (fun _ => rfl)
  have f28 := (f23.wr W25)
  have f29 := ((f8_.keep K14 nin0).other W25 (Or.inr (slot_ne (Or.inr (own_g hw 39 rfl)) (Or.inr (own_g hw 41 rfl)) (by decide) (t := .byte) (t' := (.array .byte)) (by decide) (by decide))))
  have f30 := (f17.wr W25)
  have f31 := (f18.other W25 (Ne.symm ne20))
  refine ⟨_, _, pre0 _ ?_, hrun, hended, _, _, rfl, ?_, ⟨_, rfl⟩, hW, hsame.mono (by decide) (by decide)⟩
  · refine XS.aloadN X0.here hx rfl (hb hby d25_0) rfl rfl ?_
    show Steps _ _ _ (s₁.setTop (mkF m 1 #[rv u0, rv u1, .val .null, .unset, .unset] [(.ref u0)])) _
    refine st1 _ ?_
    refine XS.aloadN X1.here hx rfl (hb hby d25_4) rfl rfl ?_
    show Steps _ _ _ (T1.setTop (mkF m 5 #[rv u0, rv u1, .val .null, .unset, .unset] [(.ref u1)])) _
    refine st2.trans ?_
    refine XS.astoreN X2.here hx rfl (hb hby d25_8) rfl rfl (l' := #[rv u0, rv u1, .val .null, rv bv, .unset]) rfl ?_
    refine XS.aloadN X2.here hx rfl (hb hby d25_9) rfl rfl ?_
    show Steps _ _ _ (T2.setTop (mkF m 10 #[rv u0, rv u1, .val .null, rv bv, .unset] [(.ref u1)])) _
    refine st4.trans ?_
    refine XS.istore X4.here hx rfl (hb hby d25_13) rfl (l' := #[rv u0, rv u1, .val .null, rv bv, iv cnt]) rfl ?_
    refine XS.aloadN X4.here hx rfl (hb hby d25_15) rfl rfl ?_
    show Steps _ _ _ (T4.setTop (mkF m 16 #[rv u0, rv u1, .val .null, rv bv, iv cnt] [(.ref u1)])) _
    refine st6.trans ?_
    refine XS.ifNo X6.here hx rfl (hb hby d25_19) rfl ((if0 _ _).trans (feq (by decide : ¬ ((1 : Int32) = (0 : Int32)))).1) ?_
    refine XS.aloadN X6.here hx rfl (hb hby d25_22) rfl rfl ?_
    refine XS.iconst X6.here hx rfl (hb hby d25_23) ?_
    refine st8 _ ?_
    refine XS.aloadN X8.here hx rfl (hb hby d25_27) rfl rfl ?_
    refine XS.aloadN X8.here hx rfl (hb hby d25_28) rfl rfl ?_
    refine XS.iconst X8.here hx rfl (hb hby d25_29) ?_
    refine XS.iload X8.here hx rfl (hb hby d25_30) rfl ?_
    show Steps _ _ _ (T8.setTop (mkF m 32 #[rv u0, rv u1, .val .null, rv bv, iv cnt] [(.int cnt), (.int (0 : Int32)), (.ref bv), (.ref u0)])) _
    refine st14 _ ?_
    refine st25 _ ?_
    refine XS.goto X25.here hx rfl (pc0 := 38) (pc' := 97) rfl (hb hby d25_38) (by decide) (by decide) ?_
    show Steps _ _ _ (T25.setTop (mkF m 97 #[rv u0, rv u1, .val .null, rv bv, iv cnt] [])) _
    exact X25.returnOut hx Bd.returns (hb hby d25_97) hr
  · show Q_rmI5 Z u0 u1 bv kb cap bs cnt xl zC h0 n0 _ T25.heap _
    rw [e25]
    exact ⟨yv_14, ky_14, ys_14, rfl, N26, K27, zyv_14, f28, f25_, f29, f30, f31, f19⟩

theorem ef_rmI6 (m : MethodId) (x0 : Addr) (x1 : Addr) : entryFrame m #[(.ref x0), (.ref x1)] 2 = mkF m 0 #[rv x0, rv x1] [] := by first | (simp [entryFrame, mkF, argsToLocals, Value.category]; done) | rfl
def Q_rmI6 (Z : State) (u0 : Addr) (u1 : Addr) (bv : Addr) (kb : ClassId) (cap : Int32) (bs : List Value) (cnt : Int32) (xl : List Int32) (zC : Int32) (h0 : Heap) (n0 : Nat) (v : Option Value) (h : Heap) (L : List Loc) : Prop := ∃ (yv : Addr), ∃ (ky : ClassId), ∃ (ys : List Value), (v = none ∧ Fr n0 L ∧ Keep h0 h [u0] ∧ h0.size ≤ yv ∧ Exa Z h u0 "java/lang/String" ∧ Fld Z h u0 "java/lang/String" "value" "[B" (.ref yv) ∧ Fld Z h u0 "java/lang/String" "coder" "B" (.int (0 : Int32)) ∧ Exa Z h yv "[B" ∧ Arv Z h yv ky .byte cnt ys (.int 0) ∧ (own_has ys xl))
set_option maxRecDepth 65536 in
set_option maxHeartbeats 40000000 in
theorem rmI6 (l : Launch) (Z : State) (a0 : Array Value) (hw : ∀ d ∈ tables_1, d.before a0 Z = true) (ws : List Jvm.Cond) (u0 : Addr) (u1 : Addr) (bv : Addr) (kb : ClassId) (cap : Int32) (bs : List Value) (cnt : Int32) (xl : List Int32) (zC : Int32) (h0 : Heap) (n0 : Nat) (Z0 : n0 ≤ h0.size) (P_E_u0 : Exa Z h0 u0 "java/lang/String") (P_F_u0_String_value : Fld Z h0 u0 "java/lang/String" "value" "[B" .null) (P_F_u0_String_coder : Fld Z h0 u0 "java/lang/String" "coder" "B" (.int (0 : Int32))) (P_E_u1 : Exa Z h0 u1 "java/lang/StringBuilder") (P_F_u1_AbstractStringBuilder_value : Fld Z h0 u1 "java/lang/AbstractStringBuilder" "value" "[B" (.ref bv)) (P_F_u1_AbstractStringBuilder_coder : Fld Z h0 u1 "java/lang/AbstractStringBuilder" "coder" "B" (.int (0 : Int32))) (P_F_u1_AbstractStringBuilder_count : Fld Z h0 u1 "java/lang/AbstractStringBuilder" "count" "I" (.int cnt)) (P_E_bv : Exa Z h0 bv "[B") (P_G_bv : Arv Z h0 bv kb .byte cap bs (.int 0)) (neA : u0 ≠ u1) (neB : u0 ≠ bv) (P_S_String_COMPACT_STRINGS : Sta Z h0 "java/lang/String" "COMPACT_STRINGS" "Z" (.int zC)) (hz : ¬ (zC = (0 : Int32))) (wi : own_in xl cap) (wl : own_len xl cnt) (w34 : xl.length ≤ 34) (wc : own_cap cap bs) (wh : own_has bs xl) (g_u0 : n0 ≤ u0) :
    own_MF l own_y28 (Jvm.Cond.code own_y28 jdk_42_method_53_code 2 none) ws ({ frames := 4, cells := 1, slots := 34, locals := 65 } : Room) #[(.ref u0), (.ref u1)] Z h0 (Q_rmI6 Z u0 u1 bv kb cap bs cnt xl zC h0 n0) := by
  refine MetFree.of_bodySF (plainFor_of_name pn_24) hisR ?_
  intro p e s m args below meth c s₁ Bd hml0 hP hK
  obtain ⟨rfl, hZ, hh⟩ := hP
  have hx := Bd.exec
  have hby := Bd.bytes
  have hml : c.maxLocals = 2 := hml0
  have hown : s.vm.findClass "java/lang/String" = some m.cls := findClass_of_methodNamed Bd.named
  have hnm := (name_of_methodNamed Bd.named Bd.method).1
  have X0 : Stand p l e ({ frames := 4, cells := 1, slots := 34, locals := 65 } : Room) s m #[(.ref u0), (.ref u1)] below meth c s₁ [] 0 0 := Stand.of_body Bd
  have e0 : s₁.heap = h0 := by rw [← hh, Bd.state]; rfl
  have N0 := Fr.nil n0
  have pre0 : ∀ t, Steps p.tables e below (s₁.setTop (mkF m 0 #[rv u0, rv u1] [])) t → Steps p.tables e below (s₁.setTop (entryFrame m #[(.ref u0), (.ref u1)] 2)) t := fun t k => castTop (ef_rmI6 m u0 u1) k
  obtain ⟨_, _, ⟨T1, L1, k1, n1⟩, -, X1, ⟨Lc1, hQ1, l1, y1, z1⟩, st1⟩ := X0.specialBack hx (y := own_y27) rfl hown (mvT hZ (own_g hw 151 rfl)) (mvT hZ (own_g hw 152 rfl)) (mvT hZ (own_g hw 153 rfl)) (by decide) (backOf (W := 0) (rmI5 l Z a0 hw [] u0 u1 bv kb cap bs cnt xl zC h0 n0 Z0 P_E_u0 P_F_u0_String_value P_F_u0_String_coder P_E_u1 P_F_u1_AbstractStringBuilder_value P_F_u1_AbstractStringBuilder_coder P_F_u1_AbstractStringBuilder_count P_E_bv P_G_bv neA neB P_S_String_COMPACT_STRINGS hz wi wl w34 wc wh g_u0) hZ (own_g hw 153 rfl) (own_g hw 14 rfl) (by decide) (by decide)) (g := (mkF m 3 #[rv u0, rv u1] [.null, (.ref u1), (.ref u0)])) rfl (by rw [hml]; rfl) (Steps.refl _) (a := u0) (argsL := [(.ref u1), .null]) (rest := []) (lenOf pd__Ljava_lang_AbstractStringBuilder_Ljava_lang_Void__V rfl) rfl (by show 2 * 0 + _ ≤ _; exact Nat.le_of_eq rfl) (hb hby d24_3) (fun _ _ => ⟨rfl, e0, (by decide : 0 + 1 ≤ _), (by decide : 0 + 34 ≤ _)⟩)
  dsimp only [Pt.U, Pt.locs, Pt.cells, Pt.slots] at X1 l1 y1 z1 st1 hQ1
  subst l1 y1 z1
  obtain ⟨yv_1, ky_1, ys_1, rfl, N1q, K1, sx1_0, f2, f3, f4, f5, f6, f7⟩ := hQ1
  have oyv_1 : n0 ≤ yv_1 := Nat.le_trans Z0 sx1_0
  have zyv_1 : h0.size ≤ yv_1 := Nat.le_trans (Keep.refl h0 [u0]).1 sx1_0
  have ne8 : u0 ≠ yv_1 := Nat.ne_of_lt (Nat.lt_of_lt_of_le P_E_u0.lt sx1_0)
  have ne9 : u1 ≠ yv_1 := Nat.ne_of_lt (Nat.lt_of_lt_of_le P_E_u1.lt sx1_0)
  have ne10 : bv ≠ yv_1 := Nat.ne_of_lt (Nat.lt_of_lt_of_le P_E_bv.lt sx1_0)
  have KK1 : Keep h0 T1.heap [u0] := Keep.trans (Keep.refl h0 [u0]) K1 (allS (Or.inl (List.mem_of_getElem? (i := 0) rfl)) all0)
  have N1 := Fr.app N0 N1q
  obtain ⟨fs, hr, hrun, hended, hW, hsame⟩ := X1.leave (v := none) (fun _ => rfl)
  refine ⟨_, _, pre0 _ ?_, hrun, hended, _, _, rfl, ?_, ⟨_, rfl⟩, hW, hsame.mono (by decide) (by decide)⟩
  · refine XS.aloadN X0.here hx rfl (hb hby d24_0) rfl rfl ?_
    refine XS.aloadN X0.here hx rfl (hb hby d24_1) rfl rfl ?_
    refine XS.aconstNull X0.here hx rfl (hb hby d24_2) ?_
    show Steps _ _ _ (s₁.setTop (mkF m 3 #[rv u0, rv u1] [.null, (.ref u1), (.ref u0)])) _
    refine st1.trans ?_
    show Steps _ _ _ (T1.setTop (mkF m 6 #[rv u0, rv u1] [])) _
    exact X1.returnOut hx Bd.returns (hb hby d24_6) hr
  · show Q_rmI6 Z u0 u1 bv kb cap bs cnt xl zC h0 n0 _ T1.heap _
    exact ⟨yv_1, ky_1, ys_1, rfl, N1, KK1, zyv_1, f2, f3, f4, f5, f6, f7⟩

theorem ef_rmTS (m : MethodId) (x0 : Addr) : entryFrame m #[(.ref x0)] 1 = mkF m 0 #[rv x0] [] := by first | (simp [entryFrame, mkF, argsToLocals, Value.category]; done) | rfl
def Q_rmTS (Z : State) (u0 : Addr) (bv : Addr) (kb : ClassId) (cap : Int32) (bs : List Value) (cnt : Int32) (xl : List Int32) (zC : Int32) (h0 : Heap) (n0 : Nat) (v : Option Value) (h : Heap) (L : List Loc) : Prop := ∃ (sg : Addr), ∃ (yv : Addr), ∃ (ky : ClassId), ∃ (ys : List Value), (v = (some (.ref sg)) ∧ Fr n0 L ∧ Keep h0 h [] ∧ h0.size ≤ sg ∧ h0.size ≤ yv ∧ sg ≠ yv ∧ Exa Z h sg "java/lang/String" ∧ Fld Z h sg "java/lang/String" "value" "[B" (.ref yv) ∧ Fld Z h sg "java/lang/String" "coder" "B" (.int (0 : Int32)) ∧ Exa Z h yv "[B" ∧ Arv Z h yv ky .byte cnt ys (.int 0) ∧ (own_has ys xl))
set_option maxRecDepth 65536 in
set_option maxHeartbeats 40000000 in
theorem rmTS (l : Launch) (Z : State) (a0 : Array Value) (hw : ∀ d ∈ tables_1, d.before a0 Z = true) (ws : List Jvm.Cond) (u0 : Addr) (bv : Addr) (kb : ClassId) (cap : Int32) (bs : List Value) (cnt : Int32) (xl : List Int32) (zC : Int32) (h0 : Heap) (n0 : Nat) (Z0 : n0 ≤ h0.size) (P_E_u0 : Exa Z h0 u0 "java/lang/StringBuilder") (P_F_u0_AbstractStringBuilder_value : Fld Z h0 u0 "java/lang/AbstractStringBuilder" "value" "[B" (.ref bv)) (P_F_u0_AbstractStringBuilder_coder : Fld Z h0 u0 "java/lang/AbstractStringBuilder" "coder" "B" (.int (0 : Int32))) (P_F_u0_AbstractStringBuilder_count : Fld Z h0 u0 "java/lang/AbstractStringBuilder" "count" "I" (.int cnt)) (P_E_bv : Exa Z h0 bv "[B") (P_G_bv : Arv Z h0 bv kb .byte cap bs (.int 0)) (P_S_String_COMPACT_STRINGS : Sta Z h0 "java/lang/String" "COMPACT_STRINGS" "Z" (.int zC)) (hz : ¬ (zC = (0 : Int32))) (wi : own_in xl cap) (wl : own_len xl cnt) (w34 : xl.length ≤ 34) (wc : own_cap cap bs) (wh : own_has bs xl) :
    own_MF l own_y29 (Jvm.Cond.code own_y29 jdk_67_method_42_code 1 (some (.object "java/lang/String"))) ws ({ frames := 5, cells := 2, slots := 38, locals := 79 } : Room) #[(.ref u0)] Z h0 (Q_rmTS Z u0 bv kb cap bs cnt xl zC h0 n0) := by
  refine MetFree.of_bodySF (plainFor_of_name pn_23) hisR ?_
  intro p e s m args below meth c s₁ Bd hml0 hP hK
  obtain ⟨rfl, hZ, hh⟩ := hP
  have hx := Bd.exec
  have hby := Bd.bytes
  have hml : c.maxLocals = 1 := hml0
  have hown : s.vm.findClass "java/lang/StringBuilder" = some m.cls := findClass_of_methodNamed Bd.named
  have hnm := (name_of_methodNamed Bd.named Bd.method).1
  have X0 : Stand p l e ({ frames := 5, cells := 2, slots := 38, locals := 79 } : Room) s m #[(.ref u0)] below meth c s₁ [] 0 0 := Stand.of_body Bd
  have e0 : s₁.heap = h0 := by rw [← hh, Bd.state]; rfl
  have N0 := Fr.nil n0
  have pre0 : ∀ t, Steps p.tables e below (s₁.setTop (mkF m 0 #[rv u0] [])) t → Steps p.tables e below (s₁.setTop (entryFrame m #[(.ref u0)] 1)) t := fun t k => castTop (ef_rmTS m u0) k
  obtain ⟨T1, h1, X1, e1, E1, A1, D1, U1, st1⟩ := newO X0 hx hZ hown (own_g hw 147 rfl) (own_g hw 13 rfl) (own_g hw 14 rfl) e0 (g := (mkF m 0 #[rv u0] [])) rfl (hb hby d23_0) (by decide) (by decide)
  obtain ⟨b1, g1⟩ : ∃ z, z = h0.size := ⟨_, rfl⟩
  rw [← g1] at A1 D1 U1 st1
  have ne2 : u0 ≠ b1 := Nat.ne_of_lt (Nat.lt_of_lt_of_le P_E_u0.lt (Nat.le_of_eq g1.symm))
  have ne3 : bv ≠ b1 := Nat.ne_of_lt (Nat.lt_of_lt_of_le P_E_bv.lt (Nat.le_of_eq g1.symm))
  have o1 : n0 ≤ b1 := Nat.le_trans Z0 (Nat.le_of_eq g1.symm)
  have z1 : h0.size ≤ b1 := Nat.le_trans (Keep.refl h0 []).1 (Nat.le_of_eq g1.symm)
  have K1 : Keep h0 h1 [] := (Keep.refl h0 []).ext E1
  have f4 : Fld Z h1 b1 "java/lang/String" "coder" "B" (.int (0 : Int32)) := D1 (Or.inr (own_g hw 39 rfl)) (ty := .byte) (by decide)
  have f5 : Fld Z h1 b1 "java/lang/String" "value" "[B" .null := D1 (Or.inr (own_g hw 41 rfl)) (ty := (.array .byte)) (by decide)
  have f6 := (P_E_u0.ext E1)
  have f7 := (P_F_u0_AbstractStringBuilder_value.ext E1)
  have f8 := (P_F_u0_AbstractStringBuilder_coder.ext E1)
  have f9 := (P_F_u0_AbstractStringBuilder_count.ext E1)
  have f10 := (P_E_bv.ext E1)
  have f11 := (P_G_bv.ext E1)
  have f12 := (P_S_String_COMPACT_STRINGS.ext E1)
  have f13 := (Nat.le_trans Z0 E1.1)
  obtain ⟨_, _, ⟨T14, L14, k14, n14⟩, -, X14, ⟨Lc14, hQ14, l14, y14, z14⟩, st14⟩ := X1.specialBack hx (y := own_y28) rfl hown (mvT hZ (own_g hw 148 rfl)) (mvT hZ (own_g hw 149 rfl)) (mvT hZ (own_g hw 150 rfl)) (by decide) (backOf (W := 1) (rmI6 l Z a0 hw [] b1 u0 bv kb cap bs cnt xl zC h1 n0 f13 A1 f5 f4 f6 f7 f8 f9 f10 f11 (Ne.symm ne2) (Ne.symm ne3) f12 hz wi wl w34 wc wh o1) hZ (own_g hw 150 rfl) (own_g hw 14 rfl) (by decide) (by decide)) (g := (mkF m 5 #[rv u0] [(.ref u0), (.ref b1), (.ref b1)])) rfl (by rw [hml]; rfl) (Steps.refl _) (a := b1) (argsL := [(.ref u0)]) (rest := [(.ref b1)]) (lenOf pd__Ljava_lang_StringBuilder__V rfl) rfl (by show 2 * 0 + _ ≤ _; exact Nat.le_of_eq rfl) (hb hby d23_5) (fun _ _ => ⟨rfl, e1, (by decide : 1 + 1 ≤ _), (by decide : 4 + 34 ≤ _)⟩)
  dsimp only [Pt.U, Pt.locs, Pt.cells, Pt.slots] at X14 l14 y14 z14 st14 hQ14
  subst l14 y14 z14
  obtain ⟨yv_14, ky_14, ys_14, rfl, N14q, K14, sx14_0, f15, f16, f17, f18, f19, f20⟩ := hQ14
  have oyv_14 : n0 ≤ yv_14 := Nat.le_trans f13 sx14_0
  have zyv_14 : h0.size ≤ yv_14 := Nat.le_trans K1.1 sx14_0
  have ne21 : u0 ≠ yv_14 := Nat.ne_of_lt (Nat.lt_of_lt_of_le f6.lt sx14_0)
  have ne22 : bv ≠ yv_14 := Nat.ne_of_lt (Nat.lt_of_lt_of_le f10.lt sx14_0)
  have ne23 : b1 ≠ yv_14 := Nat.ne_of_lt (Nat.lt_of_lt_of_le A1.lt sx14_0)
  have KK14 : Keep h0 T14.heap [] := Keep.trans K1 K14 (allS (Or.inr z1) all0)
  have N14 := Fr.app N0 N14q
  obtain ⟨fs, hr, hrun, hended, hW, hsame⟩ := X14.leave (v := some (.ref b1)) (fun h => by rw [Bd.returns] at h; cases h)
  refine ⟨_, _, pre0 _ ?_, hrun, hended, _, _, rfl, ?_, ⟨_, rfl⟩, hW, hsame.mono (by decide) (by decide)⟩
  · refine st1 _ ?_
    refine XS.dup X1.here hx rfl (hb hby d23_3) rfl rfl ?_
    refine XS.aloadN X1.here hx rfl (hb hby d23_4) rfl rfl ?_
    show Steps _ _ _ (T1.setTop (mkF m 5 #[rv u0] [(.ref u0), (.ref b1), (.ref b1)])) _
    refine st14.trans ?_
    show Steps _ _ _ (T14.setTop (mkF m 8 #[rv u0] [(.ref b1)])) _
    exact retOut X14 hx Bd.returns rfl (Or.inr (Or.inr (Or.inr (Or.inr ⟨rfl, rfl, rfl⟩)))) (hb hby d23_8) hr
  · show Q_rmTS Z u0 bv kb cap bs cnt xl zC h0 n0 _ T14.heap _
    exact ⟨b1, yv_14, ky_14, ys_14, rfl, N14, KK14, z1, zyv_14, ne23, f15, f16, f17, f18, f19, f20⟩

theorem ef_rmC5_1 (m : MethodId) (x0 : Addr) (x1 : Int32) (x2 : Addr) (x3 : Int32) (x4 : Int32) : entryFrame m #[(.ref x0), (.int x1), (.ref x2), (.int x3), (.int x4)] 7 = mkF m 0 #[rv x0, iv x1, rv x2, iv x3, iv x4, .unset, .unset] [] := by first | (simp [entryFrame, mkF, argsToLocals, Value.category]; done) | rfl
def Q_rmC5_1 (Z : State) (u0 : Addr) (u2 : Addr) (kA : ClassId) (c0 : Int32) (kB : ClassId) (d0 : Int32) (h0 : Heap) (n0 : Nat) (v : Option Value) (h : Heap) (L : List Loc) : Prop := (v = (some (.int (1 : Int32))) ∧ Fr n0 L ∧ Keep h0 h [u2] ∧ Arv Z h u2 kB .byte (1 : Int32) [(.int (own_by c0))] (.int (0 : Int32)))
set_option maxRecDepth 65536 in
set_option maxHeartbeats 40000000 in
theorem rmC5_1 (l : Launch) (Z : State) (a0 : Array Value) (hw : ∀ d ∈ tables_1, d.before a0 Z = true) (ws : List Jvm.Cond) (u0 : Addr) (u2 : Addr) (kA : ClassId) (c0 : Int32) (kB : ClassId) (d0 : Int32) (h0 : Heap) (n0 : Nat) (Z0 : n0 ≤ h0.size) (P_V_u0 : Arv Z h0 u0 kA .char (1 : Int32) [(.int c0)] (.int (0 : Int32))) (P_V_u2 : Arv Z h0 u2 kB .byte (1 : Int32) [(.int d0)] (.int (0 : Int32))) (neA : u0 ≠ u2) (hc0 : ¬ c0 < 0 ∧ ¬ (255 : Int32) < c0) (g_u2 : n0 ≤ u2) :
    own_MF l own_y30 (Jvm.Cond.code own_y30 jdk_52_method_21_code 7 (some .int)) ws ({ frames := 0, cells := 0, slots := 0, locals := 0 } : Room) #[(.ref u0), (.int (0 : Int32)), (.ref u2), (.int (0 : Int32)), (.int (1 : Int32))] Z h0 (Q_rmC5_1 Z u0 u2 kA c0 kB d0 h0 n0) := by
  refine MetFree.of_bodySF (plainFor_of_name pn_5) hisR ?_
  intro p e s m args below meth c s₁ Bd hml0 hP hK
  obtain ⟨rfl, hZ, hh⟩ := hP
  have hx := Bd.exec
  have hby := Bd.bytes
  have hml : c.maxLocals = 7 := hml0
  have hown : s.vm.findClass "java/lang/StringUTF16" = some m.cls := findClass_of_methodNamed Bd.named
  have hnm := (name_of_methodNamed Bd.named Bd.method).1
  have X0 : Stand p l e ({ frames := 0, cells := 0, slots := 0, locals := 0 } : Room) s m #[(.ref u0), (.int (0 : Int32)), (.ref u2), (.int (0 : Int32)), (.int (1 : Int32))] below meth c s₁ [] 0 0 := Stand.of_body Bd
  have e0 : s₁.heap = h0 := by rw [← hh, Bd.state]; rfl
  have N0 := Fr.nil n0
  have pre0 : ∀ t, Steps p.tables e below (s₁.setTop (mkF m 0 #[rv u0, iv (0 : Int32), rv u2, iv (0 : Int32), iv (1 : Int32), .unset, .unset] [])) t → Steps p.tables e below (s₁.setTop (entryFrame m #[(.ref u0), (.int (0 : Int32)), (.ref u2), (.int (0 : Int32)), (.int (1 : Int32))] 7)) t := fun t k => castTop (ef_rmC5_1 m u0 (0 : Int32) u2 (0 : Int32) (1 : Int32)) k
  obtain ⟨cl1, Ar1, qq1, S1, N1_, H1, G1⟩ := id P_V_u0
  have hin1 : ¬ ((0 : Int32) < 0 ∨ cl1.slots.size ≤ ((0 : Int32)).toNatClampNeg) := inb_of S1 ⟨by decide, by decide⟩
  have hat1 : cl1.slots[((0 : Int32)).toNatClampNeg]? = some (.int c0) := H1.at hin1 rfl
  obtain ⟨cl2, Ar2, qq2, S2, N2_, H2, G2⟩ := id P_V_u2
  have hin2 : ¬ ((0 : Int32) < 0 ∨ cl2.slots.size ≤ ((0 : Int32)).toNatClampNeg) := inb_of S2 ⟨by decide, by decide⟩
  obtain ⟨T3, h3, X3, e3, W3, st3⟩ := stB X0 hx hZ e0 Ar2 (j := (0 : Int32)) hin2 (g := (mkF m 31 #[rv u0, iv (0 : Int32), rv u2, iv (0 : Int32), iv (1 : Int32), iv (0 : Int32), iv c0] [(.int (c0.toInt8.toInt32)), (.int (0 : Int32)), (.ref u2)])) rfl rfl (hb hby d5_31)
  have V3 : Arv Z h3 u2 kB .byte (1 : Int32) [(.int (own_by c0))] (.int (0 : Int32)) := by have q_ := Arv.set Ar2 qq2 S2 N2_ H2 G2 (fits_nar_byte _) W3 0 rfl (Nat.le_of_ble_eq_true rfl); rw [own_by2 c0] at q_; exact q_
  have N4 := Fr.snoc X3 N0 g_u2
  have K5 : Keep h0 h3 [u2] := (Keep.refl h0 [u2]).wr W3 (Or.inl (List.mem_of_getElem? (i := 0) rfl))
  obtain ⟨fs, hr, hrun, hended, hW, hsame⟩ := X3.leave (v := some (.int (1 : Int32))) (fun h => by rw [Bd.returns] at h; cases h)
  refine ⟨_, _, pre0 _ ?_, hrun, hended, _, _, rfl, ?_, ⟨_, rfl⟩, hW, hsame.mono (by decide) (by decide)⟩
  · refine XS.iconst X0.here hx rfl (hb hby d5_0) ?_
    refine XS.istore X0.here hx rfl (hb hby d5_1) rfl (l' := #[rv u0, iv (0 : Int32), rv u2, iv (0 : Int32), iv (1 : Int32), iv (0 : Int32), .unset]) rfl ?_
    refine XS.iload X0.here hx rfl (hb hby d5_3) rfl ?_
    refine XS.iload X0.here hx rfl (hb hby d5_5) rfl ?_
    refine XS.icmpNo X0.here hx rfl (hb hby d5_7) rfl (tlt (by decide : (0 : Int32) < (1 : Int32))).2.1 ?_
    refine XS.aloadN X0.here hx rfl (hb hby d5_10) rfl rfl ?_
    refine XS.iloadN X0.here hx rfl (hb hby d5_11) rfl ?_
    refine X0.caload hx (j := (0 : Int32)) (v := (.int c0)) (by rw [e0]; exact Ar1.1) (State.isArrayOf_alike hZ.alike Ar1.2.1) Ar1.2.2 hin1 hat1 (g := (mkF m 12 #[rv u0, iv (0 : Int32), rv u2, iv (0 : Int32), iv (1 : Int32), iv (0 : Int32), .unset] [(.int (0 : Int32)), (.ref u0)])) rfl rfl (hb hby d5_12) _ ?_
    refine XS.istore X0.here hx rfl (hb hby d5_13) rfl (l' := #[rv u0, iv (0 : Int32), rv u2, iv (0 : Int32), iv (1 : Int32), iv (0 : Int32), iv c0]) rfl ?_
    refine XS.iload X0.here hx rfl (hb hby d5_15) rfl ?_
    refine XS.sipush X0.here hx rfl (hb hby d5_17) ?_
    refine XS.icmpYes X0.here hx rfl (pc0 := 20) (pc' := 26) rfl (hb hby d5_20) rfl (flt hc0.2).2.2.2 (by decide) (by decide) ?_
    refine XS.aloadN X0.here hx rfl (hb hby d5_26) rfl rfl ?_
    refine XS.iloadN X0.here hx rfl (hb hby d5_27) rfl ?_
    refine XS.iload X0.here hx rfl (hb hby d5_28) rfl ?_
    refine XS.i2b X0.here hx rfl (hb hby d5_30) rfl ?_
    refine st3 _ ?_
    refine XS.iinc X3.here hx rfl (hb hby d5_32) rfl (l' := #[rv u0, iv (1 : Int32), rv u2, iv (0 : Int32), iv (1 : Int32), iv (0 : Int32), iv c0]) rfl ?_
    refine XS.iinc X3.here hx rfl (hb hby d5_35) rfl (l' := #[rv u0, iv (1 : Int32), rv u2, iv (1 : Int32), iv (1 : Int32), iv (0 : Int32), iv c0]) rfl ?_
    refine XS.iinc X3.here hx rfl (hb hby d5_38) rfl (l' := #[rv u0, iv (1 : Int32), rv u2, iv (1 : Int32), iv (1 : Int32), iv (1 : Int32), iv c0]) rfl ?_
    refine XS.goto X3.here hx rfl (pc0 := 41) (pc' := 3) rfl (hb hby d5_41) (by decide) (by decide) ?_
    refine XS.iload X3.here hx rfl (hb hby d5_3) rfl ?_
    refine XS.iload X3.here hx rfl (hb hby d5_5) rfl ?_
    show Steps _ _ _ (T3.setTop (mkF m 7 #[rv u0, iv (1 : Int32), rv u2, iv (1 : Int32), iv (1 : Int32), iv (1 : Int32), iv c0] [(.int (1 : Int32)), (.int (1 : Int32))])) _
    refine XS.icmpYes X3.here hx rfl (pc0 := 7) (pc' := 44) rfl (hb hby d5_7) rfl (flt (by decide : ¬ ((1 : Int32) < (1 : Int32)))).2.1 (by decide) (by decide) ?_
    refine XS.iload X3.here hx rfl (hb hby d5_44) rfl ?_
    show Steps _ _ _ (T3.setTop (mkF m 46 #[rv u0, iv (1 : Int32), rv u2, iv (1 : Int32), iv (1 : Int32), iv (1 : Int32), iv c0] [(.int (1 : Int32))])) _
    exact retI X3 hx Bd.returns (hb hby d5_46) hr
  · show Q_rmC5_1 Z u0 u2 kA c0 kB d0 h0 n0 _ T3.heap _
    rw [e3]
    exact ⟨rfl, N4, K5, V3⟩

theorem ef_rmC3_1 (m : MethodId) (x0 : Addr) (x1 : Int32) (x2 : Int32) : entryFrame m #[(.ref x0), (.int x1), (.int x2)] 6 = mkF m 0 #[rv x0, iv x1, iv x2, .unset, .unset, .unset] [] := by first | (simp [entryFrame, mkF, argsToLocals, Value.category]; done) | rfl
def Q_rmC3_1 (Z : State) (u0 : Addr) (kA : ClassId) (c0 : Int32) (h0 : Heap) (n0 : Nat) (v : Option Value) (h : Heap) (L : List Loc) : Prop := ∃ (t : Addr), ∃ (kt : ClassId), (v = (some (.ref t)) ∧ Fr n0 L ∧ Keep h0 h [] ∧ h0.size ≤ t ∧ Exa Z h t "[B" ∧ Arv Z h t kt .byte (1 : Int32) [(.int (own_by c0))] (.int (0 : Int32)))
set_option maxRecDepth 65536 in
set_option maxHeartbeats 40000000 in
theorem rmC3_1 (l : Launch) (Z : State) (a0 : Array Value) (hw : ∀ d ∈ tables_1, d.before a0 Z = true) (ws : List Jvm.Cond) (u0 : Addr) (kA : ClassId) (c0 : Int32) (h0 : Heap) (n0 : Nat) (Z0 : n0 ≤ h0.size) (P_V_u0 : Arv Z h0 u0 kA .char (1 : Int32) [(.int c0)] (.int (0 : Int32))) (hc0 : ¬ c0 < 0 ∧ ¬ (255 : Int32) < c0) :
    own_MF l own_y31 (Jvm.Cond.code own_y31 jdk_52_method_16_code 6 (some (.array .byte))) ws ({ frames := 1, cells := 1, slots := 1, locals := 18 } : Room) #[(.ref u0), (.int (0 : Int32)), (.int (1 : Int32))] Z h0 (Q_rmC3_1 Z u0 kA c0 h0 n0) := by
  refine MetFree.of_bodySF (plainFor_of_name pn_4) hisR ?_
  intro p e s m args below meth c s₁ Bd hml0 hP hK
  obtain ⟨rfl, hZ, hh⟩ := hP
  have hx := Bd.exec
  have hby := Bd.bytes
  have hml : c.maxLocals = 6 := hml0
  have hown : s.vm.findClass "java/lang/StringUTF16" = some m.cls := findClass_of_methodNamed Bd.named
  have hnm := (name_of_methodNamed Bd.named Bd.method).1
  have X0 : Stand p l e ({ frames := 1, cells := 1, slots := 1, locals := 18 } : Room) s m #[(.ref u0), (.int (0 : Int32)), (.int (1 : Int32))] below meth c s₁ [] 0 0 := Stand.of_body Bd
  have e0 : s₁.heap = h0 := by rw [← hh, Bd.state]; rfl
  have N0 := Fr.nil n0
  have pre0 : ∀ t, Steps p.tables e below (s₁.setTop (mkF m 0 #[rv u0, iv (0 : Int32), iv (1 : Int32), .unset, .unset, .unset] [])) t → Steps p.tables e below (s₁.setTop (entryFrame m #[(.ref u0), (.int (0 : Int32)), (.int (1 : Int32))] 6)) t := fun t k => castTop (ef_rmC3_1 m u0 (0 : Int32) (1 : Int32)) k
  obtain ⟨T1, h1, k1, X1, e1, E1, A1, Q1, st1⟩ := newPE X0 hx hZ (own_g hw 31 rfl) e0 (g := (mkF m 1 #[rv u0, iv (0 : Int32), iv (1 : Int32), .unset, .unset, .unset] [(.int (1 : Int32))])) rfl (hb hby d4_1) rfl (by decide) (cap := 1) (by decide) (by decide) (by decide) (by decide) (ad := "[B") rfl
  obtain ⟨b1, g1⟩ : ∃ z, z = h0.size := ⟨_, rfl⟩
  rw [← g1] at A1 st1 Q1
  have ne2 : u0 ≠ b1 := Nat.ne_of_lt (Nat.lt_of_lt_of_le P_V_u0.lt (Nat.le_of_eq g1.symm))
  have o1 : n0 ≤ b1 := Nat.le_trans Z0 (Nat.le_of_eq g1.symm)
  have z1 : h0.size ≤ b1 := Nat.le_trans (Keep.refl h0 []).1 (Nat.le_of_eq g1.symm)
  have K1 : Keep h0 h1 [] := (Keep.refl h0 []).ext E1
  have V1 : Arv Z h1 b1 k1 .byte (1 : Int32) [(.int (0 : Int32))] (.int (0 : Int32)) := (Arv.new A1 (by decide)).pad (pad_rep [] (.int (0 : Int32)) 1)
  have f3 := (P_V_u0.ext E1)
  have f4 := (Nat.le_trans Z0 E1.1)
  obtain ⟨_, _, ⟨T5, L5, k5, n5⟩, -, X5, ⟨Lc5, hQ5, l5, y5, z5⟩, st5⟩ := Jvm.LawKit.callS X1 hx (y := own_y30) hown (mvT hZ (own_g hw 32 rfl)) (mvT hZ (own_g hw 33 rfl)) (mvT hZ (own_g hw 29 rfl)) (mvT hZ (own_g hw 34 rfl)) (by decide) (backOf (W := 0) (rmC5_1 l Z a0 hw [] u0 b1 kA c0 k1 (0 : Int32) h1 n0 f4 f3 V1 ne2 hc0 o1) hZ (own_g hw 34 rfl) (own_g hw 29 rfl) (by decide) (by decide)) (g := (mkF m 9 #[rv u0, iv (0 : Int32), iv (1 : Int32), rv b1, .unset, .unset] [(.int (1 : Int32)), (.int (0 : Int32)), (.ref b1), (.int (0 : Int32)), (.ref u0)])) rfl (by rw [hml]; rfl) (argsL := [(.ref u0), (.int (0 : Int32)), (.ref b1), (.int (0 : Int32)), (.int (1 : Int32))]) (rest := []) (lenOf pd___CI_BII_I rfl) rfl (by show 2 * 0 + _ ≤ _; exact Nat.le_of_eq rfl) (hb hby d4_9) (fun _ _ => ⟨rfl, e1, (by decide : 1 + 0 ≤ _), (by decide : 1 + 0 ≤ _)⟩)
  dsimp only [Pt.U, Pt.locs, Pt.cells, Pt.slots] at X5 l5 y5 z5 st5 hQ5
  subst l5 y5 z5
  obtain ⟨rfl, N5q, K5, f6⟩ := hQ5
  have KK5 : Keep h0 T5.heap [] := Keep.trans K1 K5 (allS (Or.inr z1) all0)
  have N5 := Fr.app N0 N5q
  obtain ⟨fs, hr, hrun, hended, hW, hsame⟩ := X5.leave (v := some (.ref b1)) (fun h => by rw [Bd.returns] at h; cases h)
  have f7 := (Q1.keep K5)
  refine ⟨_, _, pre0 _ ?_, hrun, hended, _, _, rfl, ?_, ⟨_, rfl⟩, hW, hsame.mono (by decide) (by decide)⟩
  · refine XS.iloadN X0.here hx rfl (hb hby d4_0) rfl ?_
    refine st1 _ ?_
    refine XS.astoreN X1.here hx rfl (hb hby d4_3) rfl rfl (l' := #[rv u0, iv (0 : Int32), iv (1 : Int32), rv b1, .unset, .unset]) rfl ?_
    refine XS.aloadN X1.here hx rfl (hb hby d4_4) rfl rfl ?_
    refine XS.iloadN X1.here hx rfl (hb hby d4_5) rfl ?_
    refine XS.aloadN X1.here hx rfl (hb hby d4_6) rfl rfl ?_
    refine XS.iconst X1.here hx rfl (hb hby d4_7) ?_
    refine XS.iloadN X1.here hx rfl (hb hby d4_8) rfl ?_
    show Steps _ _ _ (T1.setTop (mkF m 9 #[rv u0, iv (0 : Int32), iv (1 : Int32), rv b1, .unset, .unset] [(.int (1 : Int32)), (.int (0 : Int32)), (.ref b1), (.int (0 : Int32)), (.ref u0)])) _
    refine st5 _ ?_
    refine XS.istore X5.here hx rfl (hb hby d4_12) rfl (l' := #[rv u0, iv (0 : Int32), iv (1 : Int32), rv b1, iv (1 : Int32), .unset]) rfl ?_
    refine XS.iload X5.here hx rfl (hb hby d4_14) rfl ?_
    refine XS.iloadN X5.here hx rfl (hb hby d4_16) rfl ?_
    refine XS.icmpYes X5.here hx rfl (pc0 := 17) (pc' := 57) rfl (hb hby d4_17) rfl (teq (by decide : (1 : Int32) = (1 : Int32))).1 (by decide) (by decide) ?_
    refine XS.aloadN X5.here hx rfl (hb hby d4_57) rfl rfl ?_
    show Steps _ _ _ (T5.setTop (mkF m 58 #[rv u0, iv (0 : Int32), iv (1 : Int32), rv b1, iv (1 : Int32), .unset] [(.ref b1)])) _
    exact retOut X5 hx Bd.returns rfl (Or.inr (Or.inr (Or.inr (Or.inr ⟨rfl, rfl, rfl⟩)))) (hb hby d4_58) hr
  · show Q_rmC3_1 Z u0 kA c0 h0 n0 _ T5.heap _
    exact ⟨b1, k1, rfl, N5, KK5, z1, f7, f6⟩

theorem ef_rmCF1 (m : MethodId) (x0 : Addr) (x1 : Int32) : entryFrame m #[(.ref x0), (.int x1)] 2 = mkF m 0 #[rv x0, iv x1] [] := by first | (simp [entryFrame, mkF, argsToLocals, Value.category]; done) | rfl
set_option maxRecDepth 65536 in
set_option maxHeartbeats 40000000 in
theorem rmCF1 (l : Launch) (Z : State) (a0 : Array Value) (hw : ∀ d ∈ tables_1, d.before a0 Z = true) (ws : List Jvm.Cond) (u0 : Addr) (kt : ClassId) (vs : List Value) (h0 : Heap) (n0 : Nat) (Z0 : n0 ≤ h0.size) (P_G_u0 : Arv Z h0 u0 kt .byte (1 : Int32) vs (.int 0)) :
    own_MF l own_y32 (Jvm.Cond.code own_y32 jdk_52_method_15_code 2 (some .byte)) ws ({ frames := 0, cells := 0, slots := 0, locals := 0 } : Room) #[(.ref u0), (.int (1 : Int32))] Z h0 (own_QP (some (.int (0 : Int32))) h0 n0) := by
  refine MetFree.of_bodySF (plainFor_of_name pn_6) hisR ?_
  intro p e s m args below meth c s₁ Bd hml0 hP hK
  obtain ⟨rfl, hZ, hh⟩ := hP
  have hx := Bd.exec
  have hby := Bd.bytes
  have hml : c.maxLocals = 2 := hml0
  have hown : s.vm.findClass "java/lang/StringUTF16" = some m.cls := findClass_of_methodNamed Bd.named
  have hnm := (name_of_methodNamed Bd.named Bd.method).1
  have X0 : Stand p l e ({ frames := 0, cells := 0, slots := 0, locals := 0 } : Room) s m #[(.ref u0), (.int (1 : Int32))] below meth c s₁ [] 0 0 := Stand.of_body Bd
  have e0 : s₁.heap = h0 := by rw [← hh, Bd.state]; rfl
  have N0 := Fr.nil n0
  have pre0 : ∀ t, Steps p.tables e below (s₁.setTop (mkF m 0 #[rv u0, iv (1 : Int32)] [])) t → Steps p.tables e below (s₁.setTop (entryFrame m #[(.ref u0), (.int (1 : Int32))] 2)) t := fun t k => castTop (ef_rmCF1 m u0 (1 : Int32)) k
  obtain ⟨cl1, Ar1, qq1, S1, N1_, H1, G1⟩ := id P_G_u0
  obtain ⟨fs, hr, hrun, hended, hW, hsame⟩ := X0.leave (v := some (.int (0 : Int32))) (fun h => by rw [Bd.returns] at h; cases h)
  refine ⟨_, _, pre0 _ ?_, hrun, hended, _, _, rfl, ?_, ⟨_, rfl⟩, hW, hsame.mono (by decide) (by decide)⟩
  · refine XS.iloadN X0.here hx rfl (hb hby d6_0) rfl ?_
    refine XS.aloadN X0.here hx rfl (hb hby d6_1) rfl rfl ?_
    refine X0.arraylength hx (by rw [e0]; exact Ar1.1) (State.isArrayOf_alike hZ.alike Ar1.2.1) (g := (mkF m 2 #[rv u0, iv (1 : Int32)] [(.ref u0), (.int (1 : Int32))])) rfl rfl (hb hby d6_2) _ ?_
    rw [len_of S1 N1_]
    refine XS.isub X0.here hx rfl (hb hby d6_3) rfl ?_
    refine XS.bipush X0.here hx rfl (hb hby d6_4) ?_
    refine XS.iushr X0.here hx rfl (hb hby d6_6) rfl ?_
    show Steps _ _ _ (s₁.setTop (mkF m 7 #[rv u0, iv (1 : Int32)] [(.int (((0 : Int32).toUInt32 >>> ((31 : Int32) &&& 31).toUInt32).toInt32))])) _
    rw [(by decide : (((0 : Int32).toUInt32 >>> ((31 : Int32) &&& 31).toUInt32).toInt32) = (0 : Int32))]
    refine XS.i2b X0.here hx rfl (hb hby d6_7) rfl ?_
    show Steps _ _ _ (s₁.setTop (mkF m 8 #[rv u0, iv (1 : Int32)] [(.int ((0 : Int32).toInt8.toInt32))])) _
    rw [(by decide : ((0 : Int32).toInt8.toInt32) = (0 : Int32))]
    show Steps _ _ _ (s₁.setTop (mkF m 8 #[rv u0, iv (1 : Int32)] [(.int (0 : Int32))])) _
    exact retN X0 hx (t := .byte) Bd.returns (by simp) (hb hby d6_8) hr
  · show own_QP (some (.int (0 : Int32))) h0 n0 _ s₁.heap _
    rw [e0]
    exact ⟨rfl, N0, rfl⟩

theorem ef_rmI4_1 (m : MethodId) (x0 : Addr) (x1 : Addr) (x2 : Int32) (x3 : Int32) : entryFrame m #[(.ref x0), (.ref x1), (.int x2), (.int x3), .null] 6 = mkF m 0 #[rv x0, rv x1, iv x2, iv x3, .val .null, .unset] [] := by first | (simp [entryFrame, mkF, argsToLocals, Value.category]; done) | rfl
def Q_rmI4_1 (Z : State) (u0 : Addr) (u1 : Addr) (kA : ClassId) (c0 : Int32) (zC : Int32) (h0 : Heap) (n0 : Nat) (v : Option Value) (h : Heap) (L : List Loc) : Prop := ∃ (t : Addr), ∃ (kt : ClassId), (v = none ∧ Fr n0 L ∧ Keep h0 h [u0] ∧ h0.size ≤ t ∧ Exa Z h u0 "java/lang/String" ∧ Fld Z h u0 "java/lang/String" "value" "[B" (.ref t) ∧ Fld Z h u0 "java/lang/String" "coder" "B" (.int (0 : Int32)) ∧ Exa Z h t "[B" ∧ Arv Z h t kt .byte (1 : Int32) [(.int (own_by c0))] (.int (0 : Int32)))
set_option maxRecDepth 65536 in
set_option maxHeartbeats 40000000 in
theorem rmI4_1 (l : Launch) (Z : State) (a0 : Array Value) (hw : ∀ d ∈ tables_1, d.before a0 Z = true) (ws : List Jvm.Cond) (u0 : Addr) (u1 : Addr) (kA : ClassId) (c0 : Int32) (zC : Int32) (h0 : Heap) (n0 : Nat) (Z0 : n0 ≤ h0.size) (P_E_u0 : Exa Z h0 u0 "java/lang/String") (P_F_u0_String_value : Fld Z h0 u0 "java/lang/String" "value" "[B" .null) (P_F_u0_String_coder : Fld Z h0 u0 "java/lang/String" "coder" "B" (.int (0 : Int32))) (P_V_u1 : Arv Z h0 u1 kA .char (1 : Int32) [(.int c0)] (.int (0 : Int32))) (neA : u0 ≠ u1) (hc0 : ¬ c0 < 0 ∧ ¬ (255 : Int32) < c0) (P_S_String_COMPACT_STRINGS : Sta Z h0 "java/lang/String" "COMPACT_STRINGS" "Z" (.int zC)) (hz : ¬ (zC = (0 : Int32))) (g_u0 : n0 ≤ u0) :
    own_MF l own_y33 (Jvm.Cond.code own_y33 jdk_42_method_149_code 6 none) ws ({ frames := 2, cells := 1, slots := 1, locals := 35 } : Room) #[(.ref u0), (.ref u1), (.int (0 : Int32)), (.int (1 : Int32)), .null] Z h0 (Q_rmI4_1 Z u0 u1 kA c0 zC h0 n0) := by
  refine MetFree.of_bodySF (plainFor_of_name pn_2) hisR ?_
  intro p e s m args below meth c s₁ Bd hml0 hP hK
  obtain ⟨rfl, hZ, hh⟩ := hP
  have hx := Bd.exec
  have hby := Bd.bytes
  have hml : c.maxLocals = 6 := hml0
  have hown : s.vm.findClass "java/lang/String" = some m.cls := findClass_of_methodNamed Bd.named
  have hnm := (name_of_methodNamed Bd.named Bd.method).1
  have X0 : Stand p l e ({ frames := 2, cells := 1, slots := 1, locals := 35 } : Room) s m #[(.ref u0), (.ref u1), (.int (0 : Int32)), (.int (1 : Int32)), .null] below meth c s₁ [] 0 0 := Stand.of_body Bd
  have e0 : s₁.heap = h0 := by rw [← hh, Bd.state]; rfl
  have N0 := Fr.nil n0
  have pre0 : ∀ t, Steps p.tables e below (s₁.setTop (mkF m 0 #[rv u0, rv u1, iv (0 : Int32), iv (1 : Int32), .val .null, .unset] [])) t → Steps p.tables e below (s₁.setTop (entryFrame m #[(.ref u0), (.ref u1), (.int (0 : Int32)), (.int (1 : Int32)), .null] 6)) t := fun t k => castTop (ef_rmI4_1 m u0 u1 (0 : Int32) (1 : Int32)) k
  obtain ⟨T1, X1, e1, st1⟩ := initO X0 hx hZ hown (own_g hw 23 rfl) (own_g hw 24 rfl) (own_g hw 25 rfl) e0 (g := (mkF m 1 #[rv u0, rv u1, iv (0 : Int32), iv (1 : Int32), .val .null, .unset] [(.ref u0)])) rfl (by rw [hml]; rfl) rfl (hb hby d2_1) (by decide) (W := 0) (by show 2 * 0 + _ ≤ _; exact Nat.le_of_eq rfl) (by decide)
  obtain ⟨T2, X2, e2, st2⟩ := getS2 X1 hx hZ hown (host := "") (Or.inl (own_g hw 26 rfl)) Via.refl e1 P_S_String_COMPACT_STRINGS (g := (mkF m 27 #[rv u0, rv u1, iv (0 : Int32), iv (1 : Int32), .val .null, .unset] [])) rfl (hb hby d2_27)
  obtain ⟨_, _, ⟨T3, L3, k3, n3⟩, -, X3, ⟨Lc3, hQ3, l3, y3, z3⟩, st3⟩ := Jvm.LawKit.callS X2 hx (y := own_y31) hown (mvT hZ (own_g hw 27 rfl)) (mvT hZ (own_g hw 28 rfl)) (mvT hZ (own_g hw 29 rfl)) (mvT hZ (own_g hw 30 rfl)) (by decide) (backOf (W := 0) (rmC3_1 l Z a0 hw [] u1 kA c0 h0 n0 Z0 P_V_u1 hc0) hZ (own_g hw 30 rfl) (own_g hw 29 rfl) (by decide) (by decide)) (g := (mkF m 36 #[rv u0, rv u1, iv (0 : Int32), iv (1 : Int32), .val .null, .unset] [(.int (1 : Int32)), (.int (0 : Int32)), (.ref u1)])) rfl (by rw [hml]; rfl) (argsL := [(.ref u1), (.int (0 : Int32)), (.int (1 : Int32))]) (rest := []) (lenOf pd___CII__B rfl) rfl (by show 2 * 0 + _ ≤ _; exact Nat.le_of_eq rfl) (hb hby d2_36) (fun _ _ => ⟨rfl, e2, (by decide : 0 + 1 ≤ _), (by decide : 0 + 1 ≤ _)⟩)
  dsimp only [Pt.U, Pt.locs, Pt.cells, Pt.slots] at X3 l3 y3 z3 st3 hQ3
  subst l3 y3 z3
  obtain ⟨t_3, kt_3, rfl, N3q, K3, sx3_0, f4, f5⟩ := hQ3
  have ot_3 : n0 ≤ t_3 := Nat.le_trans Z0 sx3_0
  have zt_3 : h0.size ≤ t_3 := Nat.le_trans (Keep.refl h0 [u0]).1 sx3_0
  have ne6 : u0 ≠ t_3 := Nat.ne_of_lt (Nat.lt_of_lt_of_le P_E_u0.lt sx3_0)
  have ne7 : u1 ≠ t_3 := Nat.ne_of_lt (Nat.lt_of_lt_of_le P_V_u1.lt sx3_0)
  have KK3 : Keep h0 T3.heap [u0] := Keep.trans (Keep.refl h0 [u0]) K3 all0
  have N3 := Fr.app N0 N3q
  have f8 := (Nat.le_trans Z0 K3.1)
  obtain ⟨_, _, ⟨T9, L9, k9, n9⟩, -, X9, ⟨Lc9, hQ9, l9, y9, z9⟩, st9⟩ := Jvm.LawKit.callS X3 hx (y := own_y32) hown (mvT hZ (own_g hw 35 rfl)) (mvT hZ (own_g hw 36 rfl)) (mvT hZ (own_g hw 29 rfl)) (mvT hZ (own_g hw 37 rfl)) (by decide) (backOf (W := 1) (rmCF1 l Z a0 hw [] t_3 kt_3 [(.int (own_by c0))] T3.heap n0 f8 f5) hZ (own_g hw 37 rfl) (own_g hw 29 rfl) (by decide) (by decide)) (g := (mkF m 45 #[rv u0, rv u1, iv (0 : Int32), iv (1 : Int32), .val .null, rv t_3] [(.int (1 : Int32)), (.ref t_3), (.ref u0)])) rfl (by rw [hml]; rfl) (argsL := [(.ref t_3), (.int (1 : Int32))]) (rest := [(.ref u0)]) (lenOf pd___BI_B rfl) rfl (by show 2 * 0 + _ ≤ _; exact Nat.le_of_eq rfl) (hb hby d2_45) (fun _ _ => ⟨rfl, rfl, (by decide : 1 + 0 ≤ _), (by decide : 1 + 0 ≤ _)⟩)
  dsimp only [Pt.U, Pt.locs, Pt.cells, Pt.slots] at X9 l9 y9 z9 st9 hQ9
  subst l9 y9 z9
  obtain ⟨rfl, N9q, e9⟩ := hQ9
  have N9 := Fr.app N3 N9q
  have f10 := (P_E_u0.keep K3)
  have f11 := (P_F_u0_String_coder.keep K3 nin0)
  obtain ⟨T12, h12, X12, e12, W12, st12⟩ := putFN X9 hx hZ hown (own_g hw 38 rfl) Via.refl e9 f11 f10 (Or.inr ⟨(own_g hw 39 rfl), rfl, hnm⟩) (own_g hw 13 rfl) (ty := .byte) (v' := (.int (0 : Int32))) (by decide) rfl rfl (g := (mkF m 48 #[rv u0, rv u1, iv (0 : Int32), iv (1 : Int32), .val .null, rv t_3] [(.int (0 : Int32)), (.ref u0)])) rfl rfl (hb hby d2_48)
  have f12_ : Fld Z h12 u0 "java/lang/String" "coder" "B" (.int (0 : Int32)) := f11.same W12
  have N13 := Fr.snoc X12 N9 g_u0
  have K14 : Keep h0 h12 [u0] := KK3.wr W12 (Or.inl (List.mem_of_getElem? (i := 0) rfl))
  have f15 := (f10.wr W12)
  have f16 := ((P_F_u0_String_value.keep K3 nin0).other W12 (Or.inr (slot_ne (Or.inr (own_g hw 41 rfl)) (Or.inr (own_g hw 39 rfl)) (by decide) (t := (.array .byte)) (t' := .byte) (by decide) (by decide))))
  obtain ⟨T17, h17, X17, e17, W17, st17⟩ := putF X12 hx hZ hown (host := "") (Or.inl (own_g hw 40 rfl)) Via.refl e12 f16 f15 (Or.inr ⟨(own_g hw 41 rfl), rfl, hnm⟩) (own_g hw 13 rfl) (ty := (.array .byte)) (by decide) rfl rfl (g := (mkF m 54 #[rv u0, rv u1, iv (0 : Int32), iv (1 : Int32), .val .null, rv t_3] [(.ref t_3), (.ref u0)])) rfl rfl (hb hby d2_54)
  have f17_ : Fld Z h17 u0 "java/lang/String" "value" "[B" (.ref t_3) := f16.same W17
  have N18 := Fr.snoc X17 N13 g_u0
  have K19 : Keep h0 h17 [u0] := K14.wr W17 (Or.inl (List.mem_of_getElem? (i := 0) rfl))
  obtain ⟨fs, hr, hrun, hended, hW, hsame⟩ := X17.leave (v := none) (fun _ => rfl)
  have f20 := (f15.wr W17)
  have f21 := (f12_.other W17 (Or.inr (slot_ne (Or.inr (own_g hw 39 rfl)) (Or.inr (own_g hw 41 rfl)) (by decide) (t := .byte) (t' := (.array .byte)) (by decide) (by decide))))
  have f22 := ((f4.wr W12).wr W17)
  have f23 := ((f5.other W12 (Ne.symm ne6)).other W17 (Ne.symm ne6))
  refine ⟨_, _, pre0 _ ?_, hrun, hended, _, _, rfl, ?_, ⟨_, rfl⟩, hW, hsame.mono (by decide) (by decide)⟩
  · refine XS.aloadN X0.here hx rfl (hb hby d2_0) rfl rfl ?_
    show Steps _ _ _ (s₁.setTop (mkF m 1 #[rv u0, rv u1, iv (0 : Int32), iv (1 : Int32), .val .null, .unset] [(.ref u0)])) _
    refine st1 _ ?_
    refine XS.iloadN X1.here hx rfl (hb hby d2_4) rfl ?_
    refine XS.ifYes X1.here hx rfl (pc0 := 5) (pc' := 27) rfl (hb hby d2_5) rfl ((if0 _ _).trans (feq (by decide : ¬ ((1 : Int32) = (0 : Int32)))).2) (by decide) (by decide) ?_
    refine st2 _ ?_
    refine XS.ifNo X2.here hx rfl (hb hby d2_30) rfl ((if0 _ _).trans (feq hz).1) ?_
    refine XS.aloadN X2.here hx rfl (hb hby d2_33) rfl rfl ?_
    refine XS.iloadN X2.here hx rfl (hb hby d2_34) rfl ?_
    refine XS.iloadN X2.here hx rfl (hb hby d2_35) rfl ?_
    show Steps _ _ _ (T2.setTop (mkF m 36 #[rv u0, rv u1, iv (0 : Int32), iv (1 : Int32), .val .null, .unset] [(.int (1 : Int32)), (.int (0 : Int32)), (.ref u1)])) _
    refine st3 _ ?_
    refine XS.astore X3.here hx rfl (hb hby d2_39) rfl rfl (l' := #[rv u0, rv u1, iv (0 : Int32), iv (1 : Int32), .val .null, rv t_3]) rfl ?_
    refine XS.aloadN X3.here hx rfl (hb hby d2_41) rfl rfl ?_
    refine XS.aload X3.here hx rfl (hb hby d2_42) rfl rfl ?_
    refine XS.iloadN X3.here hx rfl (hb hby d2_44) rfl ?_
    show Steps _ _ _ (T3.setTop (mkF m 45 #[rv u0, rv u1, iv (0 : Int32), iv (1 : Int32), .val .null, rv t_3] [(.int (1 : Int32)), (.ref t_3), (.ref u0)])) _
    refine st9 _ ?_
    refine st12 _ ?_
    refine XS.aloadN X12.here hx rfl (hb hby d2_51) rfl rfl ?_
    refine XS.aload X12.here hx rfl (hb hby d2_52) rfl rfl ?_
    refine st17 _ ?_
    show Steps _ _ _ (T17.setTop (mkF m 57 #[rv u0, rv u1, iv (0 : Int32), iv (1 : Int32), .val .null, rv t_3] [])) _
    exact X17.returnOut hx Bd.returns (hb hby d2_57) hr
  · show Q_rmI4_1 Z u0 u1 kA c0 zC h0 n0 _ T17.heap _
    rw [e17]
    exact ⟨t_3, kt_3, rfl, N18, K19, zt_3, f20, f17_, f21, f22, f23⟩

theorem ef_rmI1_1 (m : MethodId) (x0 : Addr) (x1 : Addr) : entryFrame m #[(.ref x0), (.ref x1)] 2 = mkF m 0 #[rv x0, rv x1] [] := by first | (simp [entryFrame, mkF, argsToLocals, Value.category]; done) | rfl
def Q_rmI1_1 (Z : State) (u0 : Addr) (u1 : Addr) (kA : ClassId) (c0 : Int32) (zC : Int32) (h0 : Heap) (n0 : Nat) (v : Option Value) (h : Heap) (L : List Loc) : Prop := ∃ (t : Addr), ∃ (kt : ClassId), (v = none ∧ Fr n0 L ∧ Keep h0 h [u0] ∧ h0.size ≤ t ∧ Exa Z h u0 "java/lang/String" ∧ Fld Z h u0 "java/lang/String" "value" "[B" (.ref t) ∧ Fld Z h u0 "java/lang/String" "coder" "B" (.int (0 : Int32)) ∧ Exa Z h t "[B" ∧ Arv Z h t kt .byte (1 : Int32) [(.int (own_by c0))] (.int (0 : Int32)))
set_option maxRecDepth 65536 in
set_option maxHeartbeats 40000000 in
theorem rmI1_1 (l : Launch) (Z : State) (a0 : Array Value) (hw : ∀ d ∈ tables_1, d.before a0 Z = true) (ws : List Jvm.Cond) (u0 : Addr) (u1 : Addr) (kA : ClassId) (c0 : Int32) (zC : Int32) (h0 : Heap) (n0 : Nat) (Z0 : n0 ≤ h0.size) (P_E_u0 : Exa Z h0 u0 "java/lang/String") (P_F_u0_String_value : Fld Z h0 u0 "java/lang/String" "value" "[B" .null) (P_F_u0_String_coder : Fld Z h0 u0 "java/lang/String" "coder" "B" (.int (0 : Int32))) (P_V_u1 : Arv Z h0 u1 kA .char (1 : Int32) [(.int c0)] (.int (0 : Int32))) (neA : u0 ≠ u1) (hc0 : ¬ c0 < 0 ∧ ¬ (255 : Int32) < c0) (P_S_String_COMPACT_STRINGS : Sta Z h0 "java/lang/String" "COMPACT_STRINGS" "Z" (.int zC)) (hz : ¬ (zC = (0 : Int32))) (g_u0 : n0 ≤ u0) :
    own_MF l own_y34 (Jvm.Cond.code own_y34 jdk_42_method_3_code 2 none) ws ({ frames := 3, cells := 1, slots := 1, locals := 52 } : Room) #[(.ref u0), (.ref u1)] Z h0 (Q_rmI1_1 Z u0 u1 kA c0 zC h0 n0) := by
  refine MetFree.of_bodySF (plainFor_of_name pn_1) hisR ?_
  intro p e s m args below meth c s₁ Bd hml0 hP hK
  obtain ⟨rfl, hZ, hh⟩ := hP
  have hx := Bd.exec
  have hby := Bd.bytes
  have hml : c.maxLocals = 2 := hml0
  have hown : s.vm.findClass "java/lang/String" = some m.cls := findClass_of_methodNamed Bd.named
  have hnm := (name_of_methodNamed Bd.named Bd.method).1
  have X0 : Stand p l e ({ frames := 3, cells := 1, slots := 1, locals := 52 } : Room) s m #[(.ref u0), (.ref u1)] below meth c s₁ [] 0 0 := Stand.of_body Bd
  have e0 : s₁.heap = h0 := by rw [← hh, Bd.state]; rfl
  have N0 := Fr.nil n0
  have pre0 : ∀ t, Steps p.tables e below (s₁.setTop (mkF m 0 #[rv u0, rv u1] [])) t → Steps p.tables e below (s₁.setTop (entryFrame m #[(.ref u0), (.ref u1)] 2)) t := fun t k => castTop (ef_rmI1_1 m u0 u1) k
  obtain ⟨cl1, Ar1, qq1, S1, N1_, H1, G1⟩ := id P_V_u1
  obtain ⟨_, _, ⟨T2, L2, k2, n2⟩, -, X2, ⟨Lc2, hQ2, l2, y2, z2⟩, st2⟩ := X0.specialBack hx (y := own_y33) rfl hown (mvT hZ (own_g hw 19 rfl)) (mvT hZ (own_g hw 20 rfl)) (mvT hZ (own_g hw 22 rfl)) (by decide) (backOf (W := 0) (rmI4_1 l Z a0 hw [] u0 u1 kA c0 zC h0 n0 Z0 P_E_u0 P_F_u0_String_value P_F_u0_String_coder P_V_u1 neA hc0 P_S_String_COMPACT_STRINGS hz g_u0) hZ (own_g hw 22 rfl) (own_g hw 14 rfl) (by decide) (by decide)) (g := (mkF m 6 #[rv u0, rv u1] [.null, (.int (1 : Int32)), (.int (0 : Int32)), (.ref u1), (.ref u0)])) rfl (by rw [hml]; rfl) (Steps.refl _) (a := u0) (argsL := [(.ref u1), (.int (0 : Int32)), (.int (1 : Int32)), .null]) (rest := []) (lenOf pd___CIILjava_lang_Void__V rfl) rfl (by show 2 * 0 + _ ≤ _; exact Nat.le_of_eq rfl) (hb hby d1_6) (fun _ _ => ⟨rfl, e0, (by decide : 0 + 1 ≤ _), (by decide : 0 + 1 ≤ _)⟩)
  dsimp only [Pt.U, Pt.locs, Pt.cells, Pt.slots] at X2 l2 y2 z2 st2 hQ2
  subst l2 y2 z2
  obtain ⟨t_2, kt_2, rfl, N2q, K2, sx2_0, f3, f4, f5, f6, f7⟩ := hQ2
  have ot_2 : n0 ≤ t_2 := Nat.le_trans Z0 sx2_0
  have zt_2 : h0.size ≤ t_2 := Nat.le_trans (Keep.refl h0 [u0]).1 sx2_0
  have ne8 : u0 ≠ t_2 := Nat.ne_of_lt (Nat.lt_of_lt_of_le P_E_u0.lt sx2_0)
  have ne9 : u1 ≠ t_2 := Nat.ne_of_lt (Nat.lt_of_lt_of_le P_V_u1.lt sx2_0)
  have KK2 : Keep h0 T2.heap [u0] := Keep.trans (Keep.refl h0 [u0]) K2 (allS (Or.inl (List.mem_of_getElem? (i := 0) rfl)) all0)
  have N2 := Fr.app N0 N2q
  obtain ⟨fs, hr, hrun, hended, hW, hsame⟩ := X2.leave (v := none) (fun _ => rfl)
  refine ⟨_, _, pre0 _ ?_, hrun, hended, _, _, rfl, ?_, ⟨_, rfl⟩, hW, hsame.mono (by decide) (by decide)⟩
  · refine XS.aloadN X0.here hx rfl (hb hby d1_0) rfl rfl ?_
    refine XS.aloadN X0.here hx rfl (hb hby d1_1) rfl rfl ?_
    refine XS.iconst X0.here hx rfl (hb hby d1_2) ?_
    refine XS.aloadN X0.here hx rfl (hb hby d1_3) rfl rfl ?_
    refine X0.arraylength hx (by rw [e0]; exact Ar1.1) (State.isArrayOf_alike hZ.alike Ar1.2.1) (g := (mkF m 4 #[rv u0, rv u1] [(.ref u1), (.int (0 : Int32)), (.ref u1), (.ref u0)])) rfl rfl (hb hby d1_4) _ ?_
    rw [len_of S1 N1_]
    refine XS.aconstNull X0.here hx rfl (hb hby d1_5) ?_
    show Steps _ _ _ (s₁.setTop (mkF m 6 #[rv u0, rv u1] [.null, (.int (1 : Int32)), (.int (0 : Int32)), (.ref u1), (.ref u0)])) _
    refine st2.trans ?_
    show Steps _ _ _ (T2.setTop (mkF m 9 #[rv u0, rv u1] [])) _
    exact X2.returnOut hx Bd.returns (hb hby d1_9) hr
  · show Q_rmI1_1 Z u0 u1 kA c0 zC h0 n0 _ T2.heap _
    exact ⟨t_2, kt_2, rfl, N2, KK2, zt_2, f3, f4, f5, f6, f7⟩

theorem ef_rmC5_2 (m : MethodId) (x0 : Addr) (x1 : Int32) (x2 : Addr) (x3 : Int32) (x4 : Int32) : entryFrame m #[(.ref x0), (.int x1), (.ref x2), (.int x3), (.int x4)] 7 = mkF m 0 #[rv x0, iv x1, rv x2, iv x3, iv x4, .unset, .unset] [] := by first | (simp [entryFrame, mkF, argsToLocals, Value.category]; done) | rfl
def Q_rmC5_2 (Z : State) (u0 : Addr) (u2 : Addr) (kA : ClassId) (c0 : Int32) (c1 : Int32) (kB : ClassId) (d0 : Int32) (d1 : Int32) (h0 : Heap) (n0 : Nat) (v : Option Value) (h : Heap) (L : List Loc) : Prop := (v = (some (.int (2 : Int32))) ∧ Fr n0 L ∧ Keep h0 h [u2] ∧ Arv Z h u2 kB .byte (2 : Int32) [(.int (own_by c0)), (.int (own_by c1))] (.int (0 : Int32)))
set_option maxRecDepth 65536 in
set_option maxHeartbeats 40000000 in
theorem rmC5_2 (l : Launch) (Z : State) (a0 : Array Value) (hw : ∀ d ∈ tables_1, d.before a0 Z = true) (ws : List Jvm.Cond) (u0 : Addr) (u2 : Addr) (kA : ClassId) (c0 : Int32) (c1 : Int32) (kB : ClassId) (d0 : Int32) (d1 : Int32) (h0 : Heap) (n0 : Nat) (Z0 : n0 ≤ h0.size) (P_V_u0 : Arv Z h0 u0 kA .char (2 : Int32) [(.int c0), (.int c1)] (.int (0 : Int32))) (P_V_u2 : Arv Z h0 u2 kB .byte (2 : Int32) [(.int d0), (.int d1)] (.int (0 : Int32))) (neA : u0 ≠ u2) (hc0 : ¬ c0 < 0 ∧ ¬ (255 : Int32) < c0) (hc1 : ¬ c1 < 0 ∧ ¬ (255 : Int32) < c1) (g_u2 : n0 ≤ u2) :
    own_MF l own_y30 (Jvm.Cond.code own_y30 jdk_52_method_21_code 7 (some .int)) ws ({ frames := 0, cells := 0, slots := 0, locals := 0 } : Room) #[(.ref u0), (.int (0 : Int32)), (.ref u2), (.int (0 : Int32)), (.int (2 : Int32))] Z h0 (Q_rmC5_2 Z u0 u2 kA c0 c1 kB d0 d1 h0 n0) := by
  refine MetFree.of_bodySF (plainFor_of_name pn_5) hisR ?_
  intro p e s m args below meth c s₁ Bd hml0 hP hK
  obtain ⟨rfl, hZ, hh⟩ := hP
  have hx := Bd.exec
  have hby := Bd.bytes
  have hml : c.maxLocals = 7 := hml0
  have hown : s.vm.findClass "java/lang/StringUTF16" = some m.cls := findClass_of_methodNamed Bd.named
  have hnm := (name_of_methodNamed Bd.named Bd.method).1
  have X0 : Stand p l e ({ frames := 0, cells := 0, slots := 0, locals := 0 } : Room) s m #[(.ref u0), (.int (0 : Int32)), (.ref u2), (.int (0 : Int32)), (.int (2 : Int32))] below meth c s₁ [] 0 0 := Stand.of_body Bd
  have e0 : s₁.heap = h0 := by rw [← hh, Bd.state]; rfl
  have N0 := Fr.nil n0
  have pre0 : ∀ t, Steps p.tables e below (s₁.setTop (mkF m 0 #[rv u0, iv (0 : Int32), rv u2, iv (0 : Int32), iv (2 : Int32), .unset, .unset] [])) t → Steps p.tables e below (s₁.setTop (entryFrame m #[(.ref u0), (.int (0 : Int32)), (.ref u2), (.int (0 : Int32)), (.int (2 : Int32))] 7)) t := fun t k => castTop (ef_rmC5_2 m u0 (0 : Int32) u2 (0 : Int32) (2 : Int32)) k
  obtain ⟨cl1, Ar1, qq1, S1, N1_, H1, G1⟩ := id P_V_u0
  have hin1 : ¬ ((0 : Int32) < 0 ∨ cl1.slots.size ≤ ((0 : Int32)).toNatClampNeg) := inb_of S1 ⟨by decide, by decide⟩
  have hat1 : cl1.slots[((0 : Int32)).toNatClampNeg]? = some (.int c0) := H1.at hin1 rfl
  obtain ⟨cl2, Ar2, qq2, S2, N2_, H2, G2⟩ := id P_V_u2
  have hin2 : ¬ ((0 : Int32) < 0 ∨ cl2.slots.size ≤ ((0 : Int32)).toNatClampNeg) := inb_of S2 ⟨by decide, by decide⟩
  obtain ⟨T3, h3, X3, e3, W3, st3⟩ := stB X0 hx hZ e0 Ar2 (j := (0 : Int32)) hin2 (g := (mkF m 31 #[rv u0, iv (0 : Int32), rv u2, iv (0 : Int32), iv (2 : Int32), iv (0 : Int32), iv c0] [(.int (c0.toInt8.toInt32)), (.int (0 : Int32)), (.ref u2)])) rfl rfl (hb hby d5_31)
  have V3 : Arv Z h3 u2 kB .byte (2 : Int32) [(.int (own_by c0)), (.int d1)] (.int (0 : Int32)) := by have q_ := Arv.set Ar2 qq2 S2 N2_ H2 G2 (fits_nar_byte _) W3 0 rfl (Nat.le_of_ble_eq_true rfl); rw [own_by2 c0] at q_; exact q_
  have N4 := Fr.snoc X3 N0 g_u2
  have K5 : Keep h0 h3 [u2] := (Keep.refl h0 [u2]).wr W3 (Or.inl (List.mem_of_getElem? (i := 0) rfl))
  have f6 := (P_V_u0.other W3 neA)
  obtain ⟨cl7, Ar7, qq7, S7, N7_, H7, G7⟩ := id f6
  have hin7 : ¬ ((1 : Int32) < 0 ∨ cl7.slots.size ≤ ((1 : Int32)).toNatClampNeg) := inb_of S7 ⟨by decide, by decide⟩
  have hat7 : cl7.slots[((1 : Int32)).toNatClampNeg]? = some (.int c1) := H7.at hin7 rfl
  obtain ⟨cl8, Ar8, qq8, S8, N8_, H8, G8⟩ := id V3
  have hin8 : ¬ ((1 : Int32) < 0 ∨ cl8.slots.size ≤ ((1 : Int32)).toNatClampNeg) := inb_of S8 ⟨by decide, by decide⟩
  obtain ⟨T9, h9, X9, e9, W9, st9⟩ := stB X3 hx hZ e3 Ar8 (j := (1 : Int32)) hin8 (g := (mkF m 31 #[rv u0, iv (1 : Int32), rv u2, iv (1 : Int32), iv (2 : Int32), iv (1 : Int32), iv c1] [(.int (c1.toInt8.toInt32)), (.int (1 : Int32)), (.ref u2)])) rfl rfl (hb hby d5_31)
  have V9 : Arv Z h9 u2 kB .byte (2 : Int32) [(.int (own_by c0)), (.int (own_by c1))] (.int (0 : Int32)) := by have q_ := Arv.set Ar8 qq8 S8 N8_ H8 G8 (fits_nar_byte _) W9 1 rfl (Nat.le_of_ble_eq_true rfl); rw [own_by2 c1] at q_; exact q_
  have N10 := Fr.snoc X9 N4 g_u2
  have K11 : Keep h0 h9 [u2] := K5.wr W9 (Or.inl (List.mem_of_getElem? (i := 0) rfl))
  obtain ⟨fs, hr, hrun, hended, hW, hsame⟩ := X9.leave (v := some (.int (2 : Int32))) (fun h => by rw [Bd.returns] at h; cases h)
  refine ⟨_, _, pre0 _ ?_, hrun, hended, _, _, rfl, ?_, ⟨_, rfl⟩, hW, hsame.mono (by decide) (by decide)⟩
  · refine XS.iconst X0.here hx rfl (hb hby d5_0) ?_
    refine XS.istore X0.here hx rfl (hb hby d5_1) rfl (l' := #[rv u0, iv (0 : Int32), rv u2, iv (0 : Int32), iv (2 : Int32), iv (0 : Int32), .unset]) rfl ?_
    refine XS.iload X0.here hx rfl (hb hby d5_3) rfl ?_
    refine XS.iload X0.here hx rfl (hb hby d5_5) rfl ?_
    refine XS.icmpNo X0.here hx rfl (hb hby d5_7) rfl (tlt (by decide : (0 : Int32) < (2 : Int32))).2.1 ?_
    refine XS.aloadN X0.here hx rfl (hb hby d5_10) rfl rfl ?_
    refine XS.iloadN X0.here hx rfl (hb hby d5_11) rfl ?_
    refine X0.caload hx (j := (0 : Int32)) (v := (.int c0)) (by rw [e0]; exact Ar1.1) (State.isArrayOf_alike hZ.alike Ar1.2.1) Ar1.2.2 hin1 hat1 (g := (mkF m 12 #[rv u0, iv (0 : Int32), rv u2, iv (0 : Int32), iv (2 : Int32), iv (0 : Int32), .unset] [(.int (0 : Int32)), (.ref u0)])) rfl rfl (hb hby d5_12) _ ?_
    refine XS.istore X0.here hx rfl (hb hby d5_13) rfl (l' := #[rv u0, iv (0 : Int32), rv u2, iv (0 : Int32), iv (2 : Int32), iv (0 : Int32), iv c0]) rfl ?_
    refine XS.iload X0.here hx rfl (hb hby d5_15) rfl ?_
    refine XS.sipush X0.here hx rfl (hb hby d5_17) ?_
    refine XS.icmpYes X0.here hx rfl (pc0 := 20) (pc' := 26) rfl (hb hby d5_20) rfl (flt hc0.2).2.2.2 (by decide) (by decide) ?_
    refine XS.aloadN X0.here hx rfl (hb hby d5_26) rfl rfl ?_
    refine XS.iloadN X0.here hx rfl (hb hby d5_27) rfl ?_
    refine XS.iload X0.here hx rfl (hb hby d5_28) rfl ?_
    refine XS.i2b X0.here hx rfl (hb hby d5_30) rfl ?_
    refine st3 _ ?_
    refine XS.iinc X3.here hx rfl (hb hby d5_32) rfl (l' := #[rv u0, iv (1 : Int32), rv u2, iv (0 : Int32), iv (2 : Int32), iv (0 : Int32), iv c0]) rfl ?_
    refine XS.iinc X3.here hx rfl (hb hby d5_35) rfl (l' := #[rv u0, iv (1 : Int32), rv u2, iv (1 : Int32), iv (2 : Int32), iv (0 : Int32), iv c0]) rfl ?_
    refine XS.iinc X3.here hx rfl (hb hby d5_38) rfl (l' := #[rv u0, iv (1 : Int32), rv u2, iv (1 : Int32), iv (2 : Int32), iv (1 : Int32), iv c0]) rfl ?_
    refine XS.goto X3.here hx rfl (pc0 := 41) (pc' := 3) rfl (hb hby d5_41) (by decide) (by decide) ?_
    refine XS.iload X3.here hx rfl (hb hby d5_3) rfl ?_
    refine XS.iload X3.here hx rfl (hb hby d5_5) rfl ?_
    show Steps _ _ _ (T3.setTop (mkF m 7 #[rv u0, iv (1 : Int32), rv u2, iv (1 : Int32), iv (2 : Int32), iv (1 : Int32), iv c0] [(.int (2 : Int32)), (.int (1 : Int32))])) _
    refine XS.icmpNo X3.here hx rfl (hb hby d5_7) rfl (tlt (by decide : (1 : Int32) < (2 : Int32))).2.1 ?_
    refine XS.aloadN X3.here hx rfl (hb hby d5_10) rfl rfl ?_
    refine XS.iloadN X3.here hx rfl (hb hby d5_11) rfl ?_
    refine X3.caload hx (j := (1 : Int32)) (v := (.int c1)) (by rw [e3]; exact Ar7.1) (State.isArrayOf_alike hZ.alike Ar7.2.1) Ar7.2.2 hin7 hat7 (g := (mkF m 12 #[rv u0, iv (1 : Int32), rv u2, iv (1 : Int32), iv (2 : Int32), iv (1 : Int32), iv c0] [(.int (1 : Int32)), (.ref u0)])) rfl rfl (hb hby d5_12) _ ?_
    refine XS.istore X3.here hx rfl (hb hby d5_13) rfl (l' := #[rv u0, iv (1 : Int32), rv u2, iv (1 : Int32), iv (2 : Int32), iv (1 : Int32), iv c1]) rfl ?_
    refine XS.iload X3.here hx rfl (hb hby d5_15) rfl ?_
    refine XS.sipush X3.here hx rfl (hb hby d5_17) ?_
    refine XS.icmpYes X3.here hx rfl (pc0 := 20) (pc' := 26) rfl (hb hby d5_20) rfl (flt hc1.2).2.2.2 (by decide) (by decide) ?_
    refine XS.aloadN X3.here hx rfl (hb hby d5_26) rfl rfl ?_
    refine XS.iloadN X3.here hx rfl (hb hby d5_27) rfl ?_
    refine XS.iload X3.here hx rfl (hb hby d5_28) rfl ?_
    refine XS.i2b X3.here hx rfl (hb hby d5_30) rfl ?_
    refine st9 _ ?_
    refine XS.iinc X9.here hx rfl (hb hby d5_32) rfl (l' := #[rv u0, iv (2 : Int32), rv u2, iv (1 : Int32), iv (2 : Int32), iv (1 : Int32), iv c1]) rfl ?_
    refine XS.iinc X9.here hx rfl (hb hby d5_35) rfl (l' := #[rv u0, iv (2 : Int32), rv u2, iv (2 : Int32), iv (2 : Int32), iv (1 : Int32), iv c1]) rfl ?_
    refine XS.iinc X9.here hx rfl (hb hby d5_38) rfl (l' := #[rv u0, iv (2 : Int32), rv u2, iv (2 : Int32), iv (2 : Int32), iv (2 : Int32), iv c1]) rfl ?_
    refine XS.goto X9.here hx rfl (pc0 := 41) (pc' := 3) rfl (hb hby d5_41) (by decide) (by decide) ?_
    refine XS.iload X9.here hx rfl (hb hby d5_3) rfl ?_
    refine XS.iload X9.here hx rfl (hb hby d5_5) rfl ?_
    refine XS.icmpYes X9.here hx rfl (pc0 := 7) (pc' := 44) rfl (hb hby d5_7) rfl (flt (by decide : ¬ ((2 : Int32) < (2 : Int32)))).2.1 (by decide) (by decide) ?_
    refine XS.iload X9.here hx rfl (hb hby d5_44) rfl ?_
    show Steps _ _ _ (T9.setTop (mkF m 46 #[rv u0, iv (2 : Int32), rv u2, iv (2 : Int32), iv (2 : Int32), iv (2 : Int32), iv c1] [(.int (2 : Int32))])) _
    exact retI X9 hx Bd.returns (hb hby d5_46) hr
  · show Q_rmC5_2 Z u0 u2 kA c0 c1 kB d0 d1 h0 n0 _ T9.heap _
    rw [e9]
    exact ⟨rfl, N10, K11, V9⟩

theorem ef_rmC3_2 (m : MethodId) (x0 : Addr) (x1 : Int32) (x2 : Int32) : entryFrame m #[(.ref x0), (.int x1), (.int x2)] 6 = mkF m 0 #[rv x0, iv x1, iv x2, .unset, .unset, .unset] [] := by first | (simp [entryFrame, mkF, argsToLocals, Value.category]; done) | rfl
def Q_rmC3_2 (Z : State) (u0 : Addr) (kA : ClassId) (c0 : Int32) (c1 : Int32) (h0 : Heap) (n0 : Nat) (v : Option Value) (h : Heap) (L : List Loc) : Prop := ∃ (t : Addr), ∃ (kt : ClassId), (v = (some (.ref t)) ∧ Fr n0 L ∧ Keep h0 h [] ∧ h0.size ≤ t ∧ Exa Z h t "[B" ∧ Arv Z h t kt .byte (2 : Int32) [(.int (own_by c0)), (.int (own_by c1))] (.int (0 : Int32)))
set_option maxRecDepth 65536 in
set_option maxHeartbeats 40000000 in
theorem rmC3_2 (l : Launch) (Z : State) (a0 : Array Value) (hw : ∀ d ∈ tables_1, d.before a0 Z = true) (ws : List Jvm.Cond) (u0 : Addr) (kA : ClassId) (c0 : Int32) (c1 : Int32) (h0 : Heap) (n0 : Nat) (Z0 : n0 ≤ h0.size) (P_V_u0 : Arv Z h0 u0 kA .char (2 : Int32) [(.int c0), (.int c1)] (.int (0 : Int32))) (hc0 : ¬ c0 < 0 ∧ ¬ (255 : Int32) < c0) (hc1 : ¬ c1 < 0 ∧ ¬ (255 : Int32) < c1) :
    own_MF l own_y31 (Jvm.Cond.code own_y31 jdk_52_method_16_code 6 (some (.array .byte))) ws ({ frames := 1, cells := 1, slots := 2, locals := 18 } : Room) #[(.ref u0), (.int (0 : Int32)), (.int (2 : Int32))] Z h0 (Q_rmC3_2 Z u0 kA c0 c1 h0 n0) := by
  refine MetFree.of_bodySF (plainFor_of_name pn_4) hisR ?_
  intro p e s m args below meth c s₁ Bd hml0 hP hK
  obtain ⟨rfl, hZ, hh⟩ := hP
  have hx := Bd.exec
  have hby := Bd.bytes
  have hml : c.maxLocals = 6 := hml0
  have hown : s.vm.findClass "java/lang/StringUTF16" = some m.cls := findClass_of_methodNamed Bd.named
  have hnm := (name_of_methodNamed Bd.named Bd.method).1
  have X0 : Stand p l e ({ frames := 1, cells := 1, slots := 2, locals := 18 } : Room) s m #[(.ref u0), (.int (0 : Int32)), (.int (2 : Int32))] below meth c s₁ [] 0 0 := Stand.of_body Bd
  have e0 : s₁.heap = h0 := by rw [← hh, Bd.state]; rfl
  have N0 := Fr.nil n0
  have pre0 : ∀ t, Steps p.tables e below (s₁.setTop (mkF m 0 #[rv u0, iv (0 : Int32), iv (2 : Int32), .unset, .unset, .unset] [])) t → Steps p.tables e below (s₁.setTop (entryFrame m #[(.ref u0), (.int (0 : Int32)), (.int (2 : Int32))] 6)) t := fun t k => castTop (ef_rmC3_2 m u0 (0 : Int32) (2 : Int32)) k
  obtain ⟨T1, h1, k1, X1, e1, E1, A1, Q1, st1⟩ := newPE X0 hx hZ (own_g hw 31 rfl) e0 (g := (mkF m 1 #[rv u0, iv (0 : Int32), iv (2 : Int32), .unset, .unset, .unset] [(.int (2 : Int32))])) rfl (hb hby d4_1) rfl (by decide) (cap := 2) (by decide) (by decide) (by decide) (by decide) (ad := "[B") rfl
  obtain ⟨b1, g1⟩ : ∃ z, z = h0.size := ⟨_, rfl⟩
  rw [← g1] at A1 st1 Q1
  have ne2 : u0 ≠ b1 := Nat.ne_of_lt (Nat.lt_of_lt_of_le P_V_u0.lt (Nat.le_of_eq g1.symm))
  have o1 : n0 ≤ b1 := Nat.le_trans Z0 (Nat.le_of_eq g1.symm)
  have z1 : h0.size ≤ b1 := Nat.le_trans (Keep.refl h0 []).1 (Nat.le_of_eq g1.symm)
  have K1 : Keep h0 h1 [] := (Keep.refl h0 []).ext E1
  have V1 : Arv Z h1 b1 k1 .byte (2 : Int32) [(.int (0 : Int32)), (.int (0 : Int32))] (.int (0 : Int32)) := (Arv.new A1 (by decide)).pad (pad_rep [] (.int (0 : Int32)) 2)
  have f3 := (P_V_u0.ext E1)
  have f4 := (Nat.le_trans Z0 E1.1)
  obtain ⟨_, _, ⟨T5, L5, k5, n5⟩, -, X5, ⟨Lc5, hQ5, l5, y5, z5⟩, st5⟩ := Jvm.LawKit.callS X1 hx (y := own_y30) hown (mvT hZ (own_g hw 32 rfl)) (mvT hZ (own_g hw 33 rfl)) (mvT hZ (own_g hw 29 rfl)) (mvT hZ (own_g hw 34 rfl)) (by decide) (backOf (W := 0) (rmC5_2 l Z a0 hw [] u0 b1 kA c0 c1 k1 (0 : Int32) (0 : Int32) h1 n0 f4 f3 V1 ne2 hc0 hc1 o1) hZ (own_g hw 34 rfl) (own_g hw 29 rfl) (by decide) (by decide)) (g := (mkF m 9 #[rv u0, iv (0 : Int32), iv (2 : Int32), rv b1, .unset, .unset] [(.int (2 : Int32)), (.int (0 : Int32)), (.ref b1), (.int (0 : Int32)), (.ref u0)])) rfl (by rw [hml]; rfl) (argsL := [(.ref u0), (.int (0 : Int32)), (.ref b1), (.int (0 : Int32)), (.int (2 : Int32))]) (rest := []) (lenOf pd___CI_BII_I rfl) rfl (by show 2 * 0 + _ ≤ _; exact Nat.le_of_eq rfl) (hb hby d4_9) (fun _ _ => ⟨rfl, e1, (by decide : 1 + 0 ≤ _), (by decide : 2 + 0 ≤ _)⟩)
  dsimp only [Pt.U, Pt.locs, Pt.cells, Pt.slots] at X5 l5 y5 z5 st5 hQ5
  subst l5 y5 z5
  obtain ⟨rfl, N5q, K5, f6⟩ := hQ5
  have KK5 : Keep h0 T5.heap [] := Keep.trans K1 K5 (allS (Or.inr z1) all0)
  have N5 := Fr.app N0 N5q
  obtain ⟨fs, hr, hrun, hended, hW, hsame⟩ := X5.leave (v := some (.ref b1)) (fun h => by rw [Bd.returns] at h; cases h)
  have f7 := (Q1.keep K5)
  refine ⟨_, _, pre0 _ ?_, hrun, hended, _, _, rfl, ?_, ⟨_, rfl⟩, hW, hsame.mono (by decide) (by decide)⟩
  · refine XS.iloadN X0.here hx rfl (hb hby d4_0) rfl ?_
    refine st1 _ ?_
    refine XS.astoreN X1.here hx rfl (hb hby d4_3) rfl rfl (l' := #[rv u0, iv (0 : Int32), iv (2 : Int32), rv b1, .unset, .unset]) rfl ?_
    refine XS.aloadN X1.here hx rfl (hb hby d4_4) rfl rfl ?_
    refine XS.iloadN X1.here hx rfl (hb hby d4_5) rfl ?_
    refine XS.aloadN X1.here hx rfl (hb hby d4_6) rfl rfl ?_
    refine XS.iconst X1.here hx rfl (hb hby d4_7) ?_
    refine XS.iloadN X1.here hx rfl (hb hby d4_8) rfl ?_
    show Steps _ _ _ (T1.setTop (mkF m 9 #[rv u0, iv (0 : Int32), iv (2 : Int32), rv b1, .unset, .unset] [(.int (2 : Int32)), (.int (0 : Int32)), (.ref b1), (.int (0 : Int32)), (.ref u0)])) _
    refine st5 _ ?_
    refine XS.istore X5.here hx rfl (hb hby d4_12) rfl (l' := #[rv u0, iv (0 : Int32), iv (2 : Int32), rv b1, iv (2 : Int32), .unset]) rfl ?_
    refine XS.iload X5.here hx rfl (hb hby d4_14) rfl ?_
    refine XS.iloadN X5.here hx rfl (hb hby d4_16) rfl ?_
    refine XS.icmpYes X5.here hx rfl (pc0 := 17) (pc' := 57) rfl (hb hby d4_17) rfl (teq (by decide : (2 : Int32) = (2 : Int32))).1 (by decide) (by decide) ?_
    refine XS.aloadN X5.here hx rfl (hb hby d4_57) rfl rfl ?_
    show Steps _ _ _ (T5.setTop (mkF m 58 #[rv u0, iv (0 : Int32), iv (2 : Int32), rv b1, iv (2 : Int32), .unset] [(.ref b1)])) _
    exact retOut X5 hx Bd.returns rfl (Or.inr (Or.inr (Or.inr (Or.inr ⟨rfl, rfl, rfl⟩)))) (hb hby d4_58) hr
  · show Q_rmC3_2 Z u0 kA c0 c1 h0 n0 _ T5.heap _
    exact ⟨b1, k1, rfl, N5, KK5, z1, f7, f6⟩

theorem ef_rmCF2 (m : MethodId) (x0 : Addr) (x1 : Int32) : entryFrame m #[(.ref x0), (.int x1)] 2 = mkF m 0 #[rv x0, iv x1] [] := by first | (simp [entryFrame, mkF, argsToLocals, Value.category]; done) | rfl
set_option maxRecDepth 65536 in
set_option maxHeartbeats 40000000 in
theorem rmCF2 (l : Launch) (Z : State) (a0 : Array Value) (hw : ∀ d ∈ tables_1, d.before a0 Z = true) (ws : List Jvm.Cond) (u0 : Addr) (kt : ClassId) (vs : List Value) (h0 : Heap) (n0 : Nat) (Z0 : n0 ≤ h0.size) (P_G_u0 : Arv Z h0 u0 kt .byte (2 : Int32) vs (.int 0)) :
    own_MF l own_y32 (Jvm.Cond.code own_y32 jdk_52_method_15_code 2 (some .byte)) ws ({ frames := 0, cells := 0, slots := 0, locals := 0 } : Room) #[(.ref u0), (.int (2 : Int32))] Z h0 (own_QP (some (.int (0 : Int32))) h0 n0) := by
  refine MetFree.of_bodySF (plainFor_of_name pn_6) hisR ?_
  intro p e s m args below meth c s₁ Bd hml0 hP hK
  obtain ⟨rfl, hZ, hh⟩ := hP
  have hx := Bd.exec
  have hby := Bd.bytes
  have hml : c.maxLocals = 2 := hml0
  have hown : s.vm.findClass "java/lang/StringUTF16" = some m.cls := findClass_of_methodNamed Bd.named
  have hnm := (name_of_methodNamed Bd.named Bd.method).1
  have X0 : Stand p l e ({ frames := 0, cells := 0, slots := 0, locals := 0 } : Room) s m #[(.ref u0), (.int (2 : Int32))] below meth c s₁ [] 0 0 := Stand.of_body Bd
  have e0 : s₁.heap = h0 := by rw [← hh, Bd.state]; rfl
  have N0 := Fr.nil n0
  have pre0 : ∀ t, Steps p.tables e below (s₁.setTop (mkF m 0 #[rv u0, iv (2 : Int32)] [])) t → Steps p.tables e below (s₁.setTop (entryFrame m #[(.ref u0), (.int (2 : Int32))] 2)) t := fun t k => castTop (ef_rmCF2 m u0 (2 : Int32)) k
  obtain ⟨cl1, Ar1, qq1, S1, N1_, H1, G1⟩ := id P_G_u0
  obtain ⟨fs, hr, hrun, hended, hW, hsame⟩ := X0.leave (v := some (.int (0 : Int32))) (fun h => by rw [Bd.returns] at h; cases h)
  refine ⟨_, _, pre0 _ ?_, hrun, hended, _, _, rfl, ?_, ⟨_, rfl⟩, hW, hsame.mono (by decide) (by decide)⟩
  · refine XS.iloadN X0.here hx rfl (hb hby d6_0) rfl ?_
    refine XS.aloadN X0.here hx rfl (hb hby d6_1) rfl rfl ?_
    refine X0.arraylength hx (by rw [e0]; exact Ar1.1) (State.isArrayOf_alike hZ.alike Ar1.2.1) (g := (mkF m 2 #[rv u0, iv (2 : Int32)] [(.ref u0), (.int (2 : Int32))])) rfl rfl (hb hby d6_2) _ ?_
    rw [len_of S1 N1_]
    refine XS.isub X0.here hx rfl (hb hby d6_3) rfl ?_
    refine XS.bipush X0.here hx rfl (hb hby d6_4) ?_
    refine XS.iushr X0.here hx rfl (hb hby d6_6) rfl ?_
    show Steps _ _ _ (s₁.setTop (mkF m 7 #[rv u0, iv (2 : Int32)] [(.int (((0 : Int32).toUInt32 >>> ((31 : Int32) &&& 31).toUInt32).toInt32))])) _
    rw [(by decide : (((0 : Int32).toUInt32 >>> ((31 : Int32) &&& 31).toUInt32).toInt32) = (0 : Int32))]
    refine XS.i2b X0.here hx rfl (hb hby d6_7) rfl ?_
    show Steps _ _ _ (s₁.setTop (mkF m 8 #[rv u0, iv (2 : Int32)] [(.int ((0 : Int32).toInt8.toInt32))])) _
    rw [(by decide : ((0 : Int32).toInt8.toInt32) = (0 : Int32))]
    show Steps _ _ _ (s₁.setTop (mkF m 8 #[rv u0, iv (2 : Int32)] [(.int (0 : Int32))])) _
    exact retN X0 hx (t := .byte) Bd.returns (by simp) (hb hby d6_8) hr
  · show own_QP (some (.int (0 : Int32))) h0 n0 _ s₁.heap _
    rw [e0]
    exact ⟨rfl, N0, rfl⟩

theorem ef_rmI4_2 (m : MethodId) (x0 : Addr) (x1 : Addr) (x2 : Int32) (x3 : Int32) : entryFrame m #[(.ref x0), (.ref x1), (.int x2), (.int x3), .null] 6 = mkF m 0 #[rv x0, rv x1, iv x2, iv x3, .val .null, .unset] [] := by first | (simp [entryFrame, mkF, argsToLocals, Value.category]; done) | rfl
def Q_rmI4_2 (Z : State) (u0 : Addr) (u1 : Addr) (kA : ClassId) (c0 : Int32) (c1 : Int32) (zC : Int32) (h0 : Heap) (n0 : Nat) (v : Option Value) (h : Heap) (L : List Loc) : Prop := ∃ (t : Addr), ∃ (kt : ClassId), (v = none ∧ Fr n0 L ∧ Keep h0 h [u0] ∧ h0.size ≤ t ∧ Exa Z h u0 "java/lang/String" ∧ Fld Z h u0 "java/lang/String" "value" "[B" (.ref t) ∧ Fld Z h u0 "java/lang/String" "coder" "B" (.int (0 : Int32)) ∧ Exa Z h t "[B" ∧ Arv Z h t kt .byte (2 : Int32) [(.int (own_by c0)), (.int (own_by c1))] (.int (0 : Int32)))
set_option maxRecDepth 65536 in
set_option maxHeartbeats 40000000 in
theorem rmI4_2 (l : Launch) (Z : State) (a0 : Array Value) (hw : ∀ d ∈ tables_1, d.before a0 Z = true) (ws : List Jvm.Cond) (u0 : Addr) (u1 : Addr) (kA : ClassId) (c0 : Int32) (c1 : Int32) (zC : Int32) (h0 : Heap) (n0 : Nat) (Z0 : n0 ≤ h0.size) (P_E_u0 : Exa Z h0 u0 "java/lang/String") (P_F_u0_String_value : Fld Z h0 u0 "java/lang/String" "value" "[B" .null) (P_F_u0_String_coder : Fld Z h0 u0 "java/lang/String" "coder" "B" (.int (0 : Int32))) (P_V_u1 : Arv Z h0 u1 kA .char (2 : Int32) [(.int c0), (.int c1)] (.int (0 : Int32))) (neA : u0 ≠ u1) (hc0 : ¬ c0 < 0 ∧ ¬ (255 : Int32) < c0) (hc1 : ¬ c1 < 0 ∧ ¬ (255 : Int32) < c1) (P_S_String_COMPACT_STRINGS : Sta Z h0 "java/lang/String" "COMPACT_STRINGS" "Z" (.int zC)) (hz : ¬ (zC = (0 : Int32))) (g_u0 : n0 ≤ u0) :
    own_MF l own_y33 (Jvm.Cond.code own_y33 jdk_42_method_149_code 6 none) ws ({ frames := 2, cells := 1, slots := 2, locals := 35 } : Room) #[(.ref u0), (.ref u1), (.int (0 : Int32)), (.int (2 : Int32)), .null] Z h0 (Q_rmI4_2 Z u0 u1 kA c0 c1 zC h0 n0) := by
  refine MetFree.of_bodySF (plainFor_of_name pn_2) hisR ?_
  intro p e s m args below meth c s₁ Bd hml0 hP hK
  obtain ⟨rfl, hZ, hh⟩ := hP
  have hx := Bd.exec
  have hby := Bd.bytes
  have hml : c.maxLocals = 6 := hml0
  have hown : s.vm.findClass "java/lang/String" = some m.cls := findClass_of_methodNamed Bd.named
  have hnm := (name_of_methodNamed Bd.named Bd.method).1
  have X0 : Stand p l e ({ frames := 2, cells := 1, slots := 2, locals := 35 } : Room) s m #[(.ref u0), (.ref u1), (.int (0 : Int32)), (.int (2 : Int32)), .null] below meth c s₁ [] 0 0 := Stand.of_body Bd
  have e0 : s₁.heap = h0 := by rw [← hh, Bd.state]; rfl
  have N0 := Fr.nil n0
  have pre0 : ∀ t, Steps p.tables e below (s₁.setTop (mkF m 0 #[rv u0, rv u1, iv (0 : Int32), iv (2 : Int32), .val .null, .unset] [])) t → Steps p.tables e below (s₁.setTop (entryFrame m #[(.ref u0), (.ref u1), (.int (0 : Int32)), (.int (2 : Int32)), .null] 6)) t := fun t k => castTop (ef_rmI4_2 m u0 u1 (0 : Int32) (2 : Int32)) k
  obtain ⟨T1, X1, e1, st1⟩ := initO X0 hx hZ hown (own_g hw 23 rfl) (own_g hw 24 rfl) (own_g hw 25 rfl) e0 (g := (mkF m 1 #[rv u0, rv u1, iv (0 : Int32), iv (2 : Int32), .val .null, .unset] [(.ref u0)])) rfl (by rw [hml]; rfl) rfl (hb hby d2_1) (by decide) (W := 0) (by show 2 * 0 + _ ≤ _; exact Nat.le_of_eq rfl) (by decide)
  obtain ⟨T2, X2, e2, st2⟩ := getS2 X1 hx hZ hown (host := "") (Or.inl (own_g hw 26 rfl)) Via.refl e1 P_S_String_COMPACT_STRINGS (g := (mkF m 27 #[rv u0, rv u1, iv (0 : Int32), iv (2 : Int32), .val .null, .unset] [])) rfl (hb hby d2_27)
  obtain ⟨_, _, ⟨T3, L3, k3, n3⟩, -, X3, ⟨Lc3, hQ3, l3, y3, z3⟩, st3⟩ := Jvm.LawKit.callS X2 hx (y := own_y31) hown (mvT hZ (own_g hw 27 rfl)) (mvT hZ (own_g hw 28 rfl)) (mvT hZ (own_g hw 29 rfl)) (mvT hZ (own_g hw 30 rfl)) (by decide) (backOf (W := 0) (rmC3_2 l Z a0 hw [] u1 kA c0 c1 h0 n0 Z0 P_V_u1 hc0 hc1) hZ (own_g hw 30 rfl) (own_g hw 29 rfl) (by decide) (by decide)) (g := (mkF m 36 #[rv u0, rv u1, iv (0 : Int32), iv (2 : Int32), .val .null, .unset] [(.int (2 : Int32)), (.int (0 : Int32)), (.ref u1)])) rfl (by rw [hml]; rfl) (argsL := [(.ref u1), (.int (0 : Int32)), (.int (2 : Int32))]) (rest := []) (lenOf pd___CII__B rfl) rfl (by show 2 * 0 + _ ≤ _; exact Nat.le_of_eq rfl) (hb hby d2_36) (fun _ _ => ⟨rfl, e2, (by decide : 0 + 1 ≤ _), (by decide : 0 + 2 ≤ _)⟩)
  dsimp only [Pt.U, Pt.locs, Pt.cells, Pt.slots] at X3 l3 y3 z3 st3 hQ3
  subst l3 y3 z3
  obtain ⟨t_3, kt_3, rfl, N3q, K3, sx3_0, f4, f5⟩ := hQ3
  have ot_3 : n0 ≤ t_3 := Nat.le_trans Z0 sx3_0
  have zt_3 : h0.size ≤ t_3 := Nat.le_trans (Keep.refl h0 [u0]).1 sx3_0
  have ne6 : u0 ≠ t_3 := Nat.ne_of_lt (Nat.lt_of_lt_of_le P_E_u0.lt sx3_0)
  have ne7 : u1 ≠ t_3 := Nat.ne_of_lt (Nat.lt_of_lt_of_le P_V_u1.lt sx3_0)
  have KK3 : Keep h0 T3.heap [u0] := Keep.trans (Keep.refl h0 [u0]) K3 all0
  have N3 := Fr.app N0 N3q
  have f8 := (Nat.le_trans Z0 K3.1)
  obtain ⟨_, _, ⟨T9, L9, k9, n9⟩, -, X9, ⟨Lc9, hQ9, l9, y9, z9⟩, st9⟩ := Jvm.LawKit.callS X3 hx (y := own_y32) hown (mvT hZ (own_g hw 35 rfl)) (mvT hZ (own_g hw 36 rfl)) (mvT hZ (own_g hw 29 rfl)) (mvT hZ (own_g hw 37 rfl)) (by decide) (backOf (W := 1) (rmCF2 l Z a0 hw [] t_3 kt_3 [(.int (own_by c0)), (.int (own_by c1))] T3.heap n0 f8 f5) hZ (own_g hw 37 rfl) (own_g hw 29 rfl) (by decide) (by decide)) (g := (mkF m 45 #[rv u0, rv u1, iv (0 : Int32), iv (2 : Int32), .val .null, rv t_3] [(.int (2 : Int32)), (.ref t_3), (.ref u0)])) rfl (by rw [hml]; rfl) (argsL := [(.ref t_3), (.int (2 : Int32))]) (rest := [(.ref u0)]) (lenOf pd___BI_B rfl) rfl (by show 2 * 0 + _ ≤ _; exact Nat.le_of_eq rfl) (hb hby d2_45) (fun _ _ => ⟨rfl, rfl, (by decide : 1 + 0 ≤ _), (by decide : 2 + 0 ≤ _)⟩)
  dsimp only [Pt.U, Pt.locs, Pt.cells, Pt.slots] at X9 l9 y9 z9 st9 hQ9
  subst l9 y9 z9
  obtain ⟨rfl, N9q, e9⟩ := hQ9
  have N9 := Fr.app N3 N9q
  have f10 := (P_E_u0.keep K3)
  have f11 := (P_F_u0_String_coder.keep K3 nin0)
  obtain ⟨T12, h12, X12, e12, W12, st12⟩ := putFN X9 hx hZ hown (own_g hw 38 rfl) Via.refl e9 f11 f10 (Or.inr ⟨(own_g hw 39 rfl), rfl, hnm⟩) (own_g hw 13 rfl) (ty := .byte) (v' := (.int (0 : Int32))) (by decide) rfl rfl (g := (mkF m 48 #[rv u0, rv u1, iv (0 : Int32), iv (2 : Int32), .val .null, rv t_3] [(.int (0 : Int32)), (.ref u0)])) rfl rfl (hb hby d2_48)
  have f12_ : Fld Z h12 u0 "java/lang/String" "coder" "B" (.int (0 : Int32)) := f11.same W12
  have N13 := Fr.snoc X12 N9 g_u0
  have K14 : Keep h0 h12 [u0] := KK3.wr W12 (Or.inl (List.mem_of_getElem? (i := 0) rfl))
  have f15 := (f10.wr W12)
  have f16 := ((P_F_u0_String_value.keep K3 nin0).other W12 (Or.inr (slot_ne (Or.inr (own_g hw 41 rfl)) (Or.inr (own_g hw 39 rfl)) (by decide) (t := (.array .byte)) (t' := .byte) (by decide) (by decide))))
  obtain ⟨T17, h17, X17, e17, W17, st17⟩ := putF X12 hx hZ hown (host := "") (Or.inl (own_g hw 40 rfl)) Via.refl e12 f16 f15 (Or.inr ⟨(own_g hw 41 rfl), rfl, hnm⟩) (own_g hw 13 rfl) (ty := (.array .byte)) (by decide) rfl rfl (g := (mkF m 54 #[rv u0, rv u1, iv (0 : Int32), iv (2 : Int32), .val .null, rv t_3] [(.ref t_3), (.ref u0)])) rfl rfl (hb hby d2_54)
  have f17_ : Fld Z h17 u0 "java/lang/String" "value" "[B" (.ref t_3) := f16.same W17
  have N18 := Fr.snoc X17 N13 g_u0
  have K19 : Keep h0 h17 [u0] := K14.wr W17 (Or.inl (List.mem_of_getElem? (i := 0) rfl))
  obtain ⟨fs, hr, hrun, hended, hW, hsame⟩ := X17.leave (v := none) (fun _ => rfl)
  have f20 := (f15.wr W17)
  have f21 := (f12_.other W17 (Or.inr (slot_ne (Or.inr (own_g hw 39 rfl)) (Or.inr (own_g hw 41 rfl)) (by decide) (t := .byte) (t' := (.array .byte)) (by decide) (by decide))))
  have f22 := ((f4.wr W12).wr W17)
  have f23 := ((f5.other W12 (Ne.symm ne6)).other W17 (Ne.symm ne6))
  refine ⟨_, _, pre0 _ ?_, hrun, hended, _, _, rfl, ?_, ⟨_, rfl⟩, hW, hsame.mono (by decide) (by decide)⟩
  · refine XS.aloadN X0.here hx rfl (hb hby d2_0) rfl rfl ?_
    show Steps _ _ _ (s₁.setTop (mkF m 1 #[rv u0, rv u1, iv (0 : Int32), iv (2 : Int32), .val .null, .unset] [(.ref u0)])) _
    refine st1 _ ?_
    refine XS.iloadN X1.here hx rfl (hb hby d2_4) rfl ?_
    refine XS.ifYes X1.here hx rfl (pc0 := 5) (pc' := 27) rfl (hb hby d2_5) rfl ((if0 _ _).trans (feq (by decide : ¬ ((2 : Int32) = (0 : Int32)))).2) (by decide) (by decide) ?_
    refine st2 _ ?_
    refine XS.ifNo X2.here hx rfl (hb hby d2_30) rfl ((if0 _ _).trans (feq hz).1) ?_
    refine XS.aloadN X2.here hx rfl (hb hby d2_33) rfl rfl ?_
    refine XS.iloadN X2.here hx rfl (hb hby d2_34) rfl ?_
    refine XS.iloadN X2.here hx rfl (hb hby d2_35) rfl ?_
    show Steps _ _ _ (T2.setTop (mkF m 36 #[rv u0, rv u1, iv (0 : Int32), iv (2 : Int32), .val .null, .unset] [(.int (2 : Int32)), (.int (0 : Int32)), (.ref u1)])) _
    refine st3 _ ?_
    refine XS.astore X3.here hx rfl (hb hby d2_39) rfl rfl (l' := #[rv u0, rv u1, iv (0 : Int32), iv (2 : Int32), .val .null, rv t_3]) rfl ?_
    refine XS.aloadN X3.here hx rfl (hb hby d2_41) rfl rfl ?_
    refine XS.aload X3.here hx rfl (hb hby d2_42) rfl rfl ?_
    refine XS.iloadN X3.here hx rfl (hb hby d2_44) rfl ?_
    show Steps _ _ _ (T3.setTop (mkF m 45 #[rv u0, rv u1, iv (0 : Int32), iv (2 : Int32), .val .null, rv t_3] [(.int (2 : Int32)), (.ref t_3), (.ref u0)])) _
    refine st9 _ ?_
    refine st12 _ ?_
    refine XS.aloadN X12.here hx rfl (hb hby d2_51) rfl rfl ?_
    refine XS.aload X12.here hx rfl (hb hby d2_52) rfl rfl ?_
    refine st17 _ ?_
    show Steps _ _ _ (T17.setTop (mkF m 57 #[rv u0, rv u1, iv (0 : Int32), iv (2 : Int32), .val .null, rv t_3] [])) _
    exact X17.returnOut hx Bd.returns (hb hby d2_57) hr
  · show Q_rmI4_2 Z u0 u1 kA c0 c1 zC h0 n0 _ T17.heap _
    rw [e17]
    exact ⟨t_3, kt_3, rfl, N18, K19, zt_3, f20, f17_, f21, f22, f23⟩

theorem ef_rmI1_2 (m : MethodId) (x0 : Addr) (x1 : Addr) : entryFrame m #[(.ref x0), (.ref x1)] 2 = mkF m 0 #[rv x0, rv x1] [] := by first | (simp [entryFrame, mkF, argsToLocals, Value.category]; done) | rfl
def Q_rmI1_2 (Z : State) (u0 : Addr) (u1 : Addr) (kA : ClassId) (c0 : Int32) (c1 : Int32) (zC : Int32) (h0 : Heap) (n0 : Nat) (v : Option Value) (h : Heap) (L : List Loc) : Prop := ∃ (t : Addr), ∃ (kt : ClassId), (v = none ∧ Fr n0 L ∧ Keep h0 h [u0] ∧ h0.size ≤ t ∧ Exa Z h u0 "java/lang/String" ∧ Fld Z h u0 "java/lang/String" "value" "[B" (.ref t) ∧ Fld Z h u0 "java/lang/String" "coder" "B" (.int (0 : Int32)) ∧ Exa Z h t "[B" ∧ Arv Z h t kt .byte (2 : Int32) [(.int (own_by c0)), (.int (own_by c1))] (.int (0 : Int32)))
set_option maxRecDepth 65536 in
set_option maxHeartbeats 40000000 in
theorem rmI1_2 (l : Launch) (Z : State) (a0 : Array Value) (hw : ∀ d ∈ tables_1, d.before a0 Z = true) (ws : List Jvm.Cond) (u0 : Addr) (u1 : Addr) (kA : ClassId) (c0 : Int32) (c1 : Int32) (zC : Int32) (h0 : Heap) (n0 : Nat) (Z0 : n0 ≤ h0.size) (P_E_u0 : Exa Z h0 u0 "java/lang/String") (P_F_u0_String_value : Fld Z h0 u0 "java/lang/String" "value" "[B" .null) (P_F_u0_String_coder : Fld Z h0 u0 "java/lang/String" "coder" "B" (.int (0 : Int32))) (P_V_u1 : Arv Z h0 u1 kA .char (2 : Int32) [(.int c0), (.int c1)] (.int (0 : Int32))) (neA : u0 ≠ u1) (hc0 : ¬ c0 < 0 ∧ ¬ (255 : Int32) < c0) (hc1 : ¬ c1 < 0 ∧ ¬ (255 : Int32) < c1) (P_S_String_COMPACT_STRINGS : Sta Z h0 "java/lang/String" "COMPACT_STRINGS" "Z" (.int zC)) (hz : ¬ (zC = (0 : Int32))) (g_u0 : n0 ≤ u0) :
    own_MF l own_y34 (Jvm.Cond.code own_y34 jdk_42_method_3_code 2 none) ws ({ frames := 3, cells := 1, slots := 2, locals := 52 } : Room) #[(.ref u0), (.ref u1)] Z h0 (Q_rmI1_2 Z u0 u1 kA c0 c1 zC h0 n0) := by
  refine MetFree.of_bodySF (plainFor_of_name pn_1) hisR ?_
  intro p e s m args below meth c s₁ Bd hml0 hP hK
  obtain ⟨rfl, hZ, hh⟩ := hP
  have hx := Bd.exec
  have hby := Bd.bytes
  have hml : c.maxLocals = 2 := hml0
  have hown : s.vm.findClass "java/lang/String" = some m.cls := findClass_of_methodNamed Bd.named
  have hnm := (name_of_methodNamed Bd.named Bd.method).1
  have X0 : Stand p l e ({ frames := 3, cells := 1, slots := 2, locals := 52 } : Room) s m #[(.ref u0), (.ref u1)] below meth c s₁ [] 0 0 := Stand.of_body Bd
  have e0 : s₁.heap = h0 := by rw [← hh, Bd.state]; rfl
  have N0 := Fr.nil n0
  have pre0 : ∀ t, Steps p.tables e below (s₁.setTop (mkF m 0 #[rv u0, rv u1] [])) t → Steps p.tables e below (s₁.setTop (entryFrame m #[(.ref u0), (.ref u1)] 2)) t := fun t k => castTop (ef_rmI1_2 m u0 u1) k
  obtain ⟨cl1, Ar1, qq1, S1, N1_, H1, G1⟩ := id P_V_u1
  obtain ⟨_, _, ⟨T2, L2, k2, n2⟩, -, X2, ⟨Lc2, hQ2, l2, y2, z2⟩, st2⟩ := X0.specialBack hx (y := own_y33) rfl hown (mvT hZ (own_g hw 19 rfl)) (mvT hZ (own_g hw 20 rfl)) (mvT hZ (own_g hw 22 rfl)) (by decide) (backOf (W := 0) (rmI4_2 l Z a0 hw [] u0 u1 kA c0 c1 zC h0 n0 Z0 P_E_u0 P_F_u0_String_value P_F_u0_String_coder P_V_u1 neA hc0 hc1 P_S_String_COMPACT_STRINGS hz g_u0) hZ (own_g hw 22 rfl) (own_g hw 14 rfl) (by decide) (by decide)) (g := (mkF m 6 #[rv u0, rv u1] [.null, (.int (2 : Int32)), (.int (0 : Int32)), (.ref u1), (.ref u0)])) rfl (by rw [hml]; rfl) (Steps.refl _) (a := u0) (argsL := [(.ref u1), (.int (0 : Int32)), (.int (2 : Int32)), .null]) (rest := []) (lenOf pd___CIILjava_lang_Void__V rfl) rfl (by show 2 * 0 + _ ≤ _; exact Nat.le_of_eq rfl) (hb hby d1_6) (fun _ _ => ⟨rfl, e0, (by decide : 0 + 1 ≤ _), (by decide : 0 + 2 ≤ _)⟩)
  dsimp only [Pt.U, Pt.locs, Pt.cells, Pt.slots] at X2 l2 y2 z2 st2 hQ2
  subst l2 y2 z2
  obtain ⟨t_2, kt_2, rfl, N2q, K2, sx2_0, f3, f4, f5, f6, f7⟩ := hQ2
  have ot_2 : n0 ≤ t_2 := Nat.le_trans Z0 sx2_0
  have zt_2 : h0.size ≤ t_2 := Nat.le_trans (Keep.refl h0 [u0]).1 sx2_0
  have ne8 : u0 ≠ t_2 := Nat.ne_of_lt (Nat.lt_of_lt_of_le P_E_u0.lt sx2_0)
  have ne9 : u1 ≠ t_2 := Nat.ne_of_lt (Nat.lt_of_lt_of_le P_V_u1.lt sx2_0)
  have KK2 : Keep h0 T2.heap [u0] := Keep.trans (Keep.refl h0 [u0]) K2 (allS (Or.inl (List.mem_of_getElem? (i := 0) rfl)) all0)
  have N2 := Fr.app N0 N2q
  obtain ⟨fs, hr, hrun, hended, hW, hsame⟩ := X2.leave (v := none) (fun _ => rfl)
  refine ⟨_, _, pre0 _ ?_, hrun, hended, _, _, rfl, ?_, ⟨_, rfl⟩, hW, hsame.mono (by decide) (by decide)⟩
  · refine XS.aloadN X0.here hx rfl (hb hby d1_0) rfl rfl ?_
    refine XS.aloadN X0.here hx rfl (hb hby d1_1) rfl rfl ?_
    refine XS.iconst X0.here hx rfl (hb hby d1_2) ?_
    refine XS.aloadN X0.here hx rfl (hb hby d1_3) rfl rfl ?_
    refine X0.arraylength hx (by rw [e0]; exact Ar1.1) (State.isArrayOf_alike hZ.alike Ar1.2.1) (g := (mkF m 4 #[rv u0, rv u1] [(.ref u1), (.int (0 : Int32)), (.ref u1), (.ref u0)])) rfl rfl (hb hby d1_4) _ ?_
    rw [len_of S1 N1_]
    refine XS.aconstNull X0.here hx rfl (hb hby d1_5) ?_
    show Steps _ _ _ (s₁.setTop (mkF m 6 #[rv u0, rv u1] [.null, (.int (2 : Int32)), (.int (0 : Int32)), (.ref u1), (.ref u0)])) _
    refine st2.trans ?_
    show Steps _ _ _ (T2.setTop (mkF m 9 #[rv u0, rv u1] [])) _
    exact X2.returnOut hx Bd.returns (hb hby d1_9) hr
  · show Q_rmI1_2 Z u0 u1 kA c0 c1 zC h0 n0 _ T2.heap _
    exact ⟨t_2, kt_2, rfl, N2, KK2, zt_2, f3, f4, f5, f6, f7⟩

theorem ef_rmC5_3 (m : MethodId) (x0 : Addr) (x1 : Int32) (x2 : Addr) (x3 : Int32) (x4 : Int32) : entryFrame m #[(.ref x0), (.int x1), (.ref x2), (.int x3), (.int x4)] 7 = mkF m 0 #[rv x0, iv x1, rv x2, iv x3, iv x4, .unset, .unset] [] := by first | (simp [entryFrame, mkF, argsToLocals, Value.category]; done) | rfl
def Q_rmC5_3 (Z : State) (u0 : Addr) (u2 : Addr) (kA : ClassId) (c0 : Int32) (c1 : Int32) (c2 : Int32) (kB : ClassId) (d0 : Int32) (d1 : Int32) (d2 : Int32) (h0 : Heap) (n0 : Nat) (v : Option Value) (h : Heap) (L : List Loc) : Prop := (v = (some (.int (3 : Int32))) ∧ Fr n0 L ∧ Keep h0 h [u2] ∧ Arv Z h u2 kB .byte (3 : Int32) [(.int (own_by c0)), (.int (own_by c1)), (.int (own_by c2))] (.int (0 : Int32)))
set_option maxRecDepth 65536 in
set_option maxHeartbeats 40000000 in
theorem rmC5_3 (l : Launch) (Z : State) (a0 : Array Value) (hw : ∀ d ∈ tables_1, d.before a0 Z = true) (ws : List Jvm.Cond) (u0 : Addr) (u2 : Addr) (kA : ClassId) (c0 : Int32) (c1 : Int32) (c2 : Int32) (kB : ClassId) (d0 : Int32) (d1 : Int32) (d2 : Int32) (h0 : Heap) (n0 : Nat) (Z0 : n0 ≤ h0.size) (P_V_u0 : Arv Z h0 u0 kA .char (3 : Int32) [(.int c0), (.int c1), (.int c2)] (.int (0 : Int32))) (P_V_u2 : Arv Z h0 u2 kB .byte (3 : Int32) [(.int d0), (.int d1), (.int d2)] (.int (0 : Int32))) (neA : u0 ≠ u2) (hc0 : ¬ c0 < 0 ∧ ¬ (255 : Int32) < c0) (hc1 : ¬ c1 < 0 ∧ ¬ (255 : Int32) < c1) (hc2 : ¬ c2 < 0 ∧ ¬ (255 : Int32) < c2) (g_u2 : n0 ≤ u2) :
    own_MF l own_y30 (Jvm.Cond.code own_y30 jdk_52_method_21_code 7 (some .int)) ws ({ frames := 0, cells := 0, slots := 0, locals := 0 } : Room) #[(.ref u0), (.int (0 : Int32)), (.ref u2), (.int (0 : Int32)), (.int (3 : Int32))] Z h0 (Q_rmC5_3 Z u0 u2 kA c0 c1 c2 kB d0 d1 d2 h0 n0) := by
  refine MetFree.of_bodySF (plainFor_of_name pn_5) hisR ?_
  intro p e s m args below meth c s₁ Bd hml0 hP hK
  obtain ⟨rfl, hZ, hh⟩ := hP
  have hx := Bd.exec
  have hby := Bd.bytes
  have hml : c.maxLocals = 7 := hml0
  have hown : s.vm.findClass "java/lang/StringUTF16" = some m.cls := findClass_of_methodNamed Bd.named
  have hnm := (name_of_methodNamed Bd.named Bd.method).1
  have X0 : Stand p l e ({ frames := 0, cells := 0, slots := 0, locals := 0 } : Room) s m #[(.ref u0), (.int (0 : Int32)), (.ref u2), (.int (0 : Int32)), (.int (3 : Int32))] below meth c s₁ [] 0 0 := Stand.of_body Bd
  have e0 : s₁.heap = h0 := by rw [← hh, Bd.state]; rfl
  have N0 := Fr.nil n0
  have pre0 : ∀ t, Steps p.tables e below (s₁.setTop (mkF m 0 #[rv u0, iv (0 : Int32), rv u2, iv (0 : Int32), iv (3 : Int32), .unset, .unset] [])) t → Steps p.tables e below (s₁.setTop (entryFrame m #[(.ref u0), (.int (0 : Int32)), (.ref u2), (.int (0 : Int32)), (.int (3 : Int32))] 7)) t := fun t k => castTop (ef_rmC5_3 m u0 (0 : Int32) u2 (0 : Int32) (3 : Int32)) k
  obtain ⟨cl1, Ar1, qq1, S1, N1_, H1, G1⟩ := id P_V_u0
  have hin1 : ¬ ((0 : Int32) < 0 ∨ cl1.slots.size ≤ ((0 : Int32)).toNatClampNeg) := inb_of S1 ⟨by decide, by decide⟩
  have hat1 : cl1.slots[((0 : Int32)).toNatClampNeg]? = some (.int c0) := H1.at hin1 rfl
  obtain ⟨cl2, Ar2, qq2, S2, N2_, H2, G2⟩ := id P_V_u2
  have hin2 : ¬ ((0 : Int32) < 0 ∨ cl2.slots.size ≤ ((0 : Int32)).toNatClampNeg) := inb_of S2 ⟨by decide, by decide⟩
  obtain ⟨T3, h3, X3, e3, W3, st3⟩ := stB X0 hx hZ e0 Ar2 (j := (0 : Int32)) hin2 (g := (mkF m 31 #[rv u0, iv (0 : Int32), rv u2, iv (0 : Int32), iv (3 : Int32), iv (0 : Int32), iv c0] [(.int (c0.toInt8.toInt32)), (.int (0 : Int32)), (.ref u2)])) rfl rfl (hb hby d5_31)
  have V3 : Arv Z h3 u2 kB .byte (3 : Int32) [(.int (own_by c0)), (.int d1), (.int d2)] (.int (0 : Int32)) := by have q_ := Arv.set Ar2 qq2 S2 N2_ H2 G2 (fits_nar_byte _) W3 0 rfl (Nat.le_of_ble_eq_true rfl); rw [own_by2 c0] at q_; exact q_
  have N4 := Fr.snoc X3 N0 g_u2
  have K5 : Keep h0 h3 [u2] := (Keep.refl h0 [u2]).wr W3 (Or.inl (List.mem_of_getElem? (i := 0) rfl))
  have f6 := (P_V_u0.other W3 neA)
  obtain ⟨cl7, Ar7, qq7, S7, N7_, H7, G7⟩ := id f6
  have hin7 : ¬ ((1 : Int32) < 0 ∨ cl7.slots.size ≤ ((1 : Int32)).toNatClampNeg) := inb_of S7 ⟨by decide, by decide⟩
  have hat7 : cl7.slots[((1 : Int32)).toNatClampNeg]? = some (.int c1) := H7.at hin7 rfl
  obtain ⟨cl8, Ar8, qq8, S8, N8_, H8, G8⟩ := id V3
  have hin8 : ¬ ((1 : Int32) < 0 ∨ cl8.slots.size ≤ ((1 : Int32)).toNatClampNeg) := inb_of S8 ⟨by decide, by decide⟩
  obtain ⟨T9, h9, X9, e9, W9, st9⟩ := stB X3 hx hZ e3 Ar8 (j := (1 : Int32)) hin8 (g := (mkF m 31 #[rv u0, iv (1 : Int32), rv u2, iv (1 : Int32), iv (3 : Int32), iv (1 : Int32), iv c1] [(.int (c1.toInt8.toInt32)), (.int (1 : Int32)), (.ref u2)])) rfl rfl (hb hby d5_31)
  have V9 : Arv Z h9 u2 kB .byte (3 : Int32) [(.int (own_by c0)), (.int (own_by c1)), (.int d2)] (.int (0 : Int32)) := by have q_ := Arv.set Ar8 qq8 S8 N8_ H8 G8 (fits_nar_byte _) W9 1 rfl (Nat.le_of_ble_eq_true rfl); rw [own_by2 c1] at q_; exact q_
  have N10 := Fr.snoc X9 N4 g_u2
  have K11 : Keep h0 h9 [u2] := K5.wr W9 (Or.inl (List.mem_of_getElem? (i := 0) rfl))
  have f12 := (f6.other W9 neA)
  obtain ⟨cl13, Ar13, qq13, S13, N13_, H13, G13⟩ := id f12
  have hin13 : ¬ ((2 : Int32) < 0 ∨ cl13.slots.size ≤ ((2 : Int32)).toNatClampNeg) := inb_of S13 ⟨by decide, by decide⟩
  have hat13 : cl13.slots[((2 : Int32)).toNatClampNeg]? = some (.int c2) := H13.at hin13 rfl
  obtain ⟨cl14, Ar14, qq14, S14, N14_, H14, G14⟩ := id V9
  have hin14 : ¬ ((2 : Int32) < 0 ∨ cl14.slots.size ≤ ((2 : Int32)).toNatClampNeg) := inb_of S14 ⟨by decide, by decide⟩
  obtain ⟨T15, h15, X15, e15, W15, st15⟩ := stB X9 hx hZ e9 Ar14 (j := (2 : Int32)) hin14 (g := (mkF m 31 #[rv u0, iv (2 : Int32), rv u2, iv (2 : Int32), iv (3 : Int32), iv (2 : Int32), iv c2] [(.int (c2.toInt8.toInt32)), (.int (2 : Int32)), (.ref u2)])) rfl rfl (hb hby d5_31)
  have V15 : Arv Z h15 u2 kB .byte (3 : Int32) [(.int (own_by c0)), (.int (own_by c1)), (.int (own_by c2))] (.int (0 : Int32)) := by have q_ := Arv.set Ar14 qq14 S14 N14_ H14 G14 (fits_nar_byte _) W15 2 rfl (Nat.le_of_ble_eq_true rfl); rw [own_by2 c2] at q_; exact q_
  have N16 := Fr.snoc X15 N10 g_u2
  have K17 : Keep h0 h15 [u2] := K11.wr W15 (Or.inl (List.mem_of_getElem? (i := 0) rfl))
  obtain ⟨fs, hr, hrun, hended, hW, hsame⟩ := X15.leave (v := some (.int (3 : Int32))) (fun h => by rw [Bd.returns] at h; cases h)
  refine ⟨_, _, pre0 _ ?_, hrun, hended, _, _, rfl, ?_, ⟨_, rfl⟩, hW, hsame.mono (by decide) (by decide)⟩
  · refine XS.iconst X0.here hx rfl (hb hby d5_0) ?_
    refine XS.istore X0.here hx rfl (hb hby d5_1) rfl (l' := #[rv u0, iv (0 : Int32), rv u2, iv (0 : Int32), iv (3 : Int32), iv (0 : Int32), .unset]) rfl ?_
    refine XS.iload X0.here hx rfl (hb hby d5_3) rfl ?_
    refine XS.iload X0.here hx rfl (hb hby d5_5) rfl ?_
    refine XS.icmpNo X0.here hx rfl (hb hby d5_7) rfl (tlt (by decide : (0 : Int32) < (3 : Int32))).2.1 ?_
    refine XS.aloadN X0.here hx rfl (hb hby d5_10) rfl rfl ?_
    refine XS.iloadN X0.here hx rfl (hb hby d5_11) rfl ?_
    refine X0.caload hx (j := (0 : Int32)) (v := (.int c0)) (by rw [e0]; exact Ar1.1) (State.isArrayOf_alike hZ.alike Ar1.2.1) Ar1.2.2 hin1 hat1 (g := (mkF m 12 #[rv u0, iv (0 : Int32), rv u2, iv (0 : Int32), iv (3 : Int32), iv (0 : Int32), .unset] [(.int (0 : Int32)), (.ref u0)])) rfl rfl (hb hby d5_12) _ ?_
    refine XS.istore X0.here hx rfl (hb hby d5_13) rfl (l' := #[rv u0, iv (0 : Int32), rv u2, iv (0 : Int32), iv (3 : Int32), iv (0 : Int32), iv c0]) rfl ?_
    refine XS.iload X0.here hx rfl (hb hby d5_15) rfl ?_
    refine XS.sipush X0.here hx rfl (hb hby d5_17) ?_
    refine XS.icmpYes X0.here hx rfl (pc0 := 20) (pc' := 26) rfl (hb hby d5_20) rfl (flt hc0.2).2.2.2 (by decide) (by decide) ?_
    refine XS.aloadN X0.here hx rfl (hb hby d5_26) rfl rfl ?_
    refine XS.iloadN X0.here hx rfl (hb hby d5_27) rfl ?_
    refine XS.iload X0.here hx rfl (hb hby d5_28) rfl ?_
    refine XS.i2b X0.here hx rfl (hb hby d5_30) rfl ?_
    refine st3 _ ?_
    refine XS.iinc X3.here hx rfl (hb hby d5_32) rfl (l' := #[rv u0, iv (1 : Int32), rv u2, iv (0 : Int32), iv (3 : Int32), iv (0 : Int32), iv c0]) rfl ?_
    refine XS.iinc X3.here hx rfl (hb hby d5_35) rfl (l' := #[rv u0, iv (1 : Int32), rv u2, iv (1 : Int32), iv (3 : Int32), iv (0 : Int32), iv c0]) rfl ?_
    refine XS.iinc X3.here hx rfl (hb hby d5_38) rfl (l' := #[rv u0, iv (1 : Int32), rv u2, iv (1 : Int32), iv (3 : Int32), iv (1 : Int32), iv c0]) rfl ?_
    refine XS.goto X3.here hx rfl (pc0 := 41) (pc' := 3) rfl (hb hby d5_41) (by decide) (by decide) ?_
    refine XS.iload X3.here hx rfl (hb hby d5_3) rfl ?_
    refine XS.iload X3.here hx rfl (hb hby d5_5) rfl ?_
    show Steps _ _ _ (T3.setTop (mkF m 7 #[rv u0, iv (1 : Int32), rv u2, iv (1 : Int32), iv (3 : Int32), iv (1 : Int32), iv c0] [(.int (3 : Int32)), (.int (1 : Int32))])) _
    refine XS.icmpNo X3.here hx rfl (hb hby d5_7) rfl (tlt (by decide : (1 : Int32) < (3 : Int32))).2.1 ?_
    refine XS.aloadN X3.here hx rfl (hb hby d5_10) rfl rfl ?_
    refine XS.iloadN X3.here hx rfl (hb hby d5_11) rfl ?_
    refine X3.caload hx (j := (1 : Int32)) (v := (.int c1)) (by rw [e3]; exact Ar7.1) (State.isArrayOf_alike hZ.alike Ar7.2.1) Ar7.2.2 hin7 hat7 (g := (mkF m 12 #[rv u0, iv (1 : Int32), rv u2, iv (1 : Int32), iv (3 : Int32), iv (1 : Int32), iv c0] [(.int (1 : Int32)), (.ref u0)])) rfl rfl (hb hby d5_12) _ ?_
    refine XS.istore X3.here hx rfl (hb hby d5_13) rfl (l' := #[rv u0, iv (1 : Int32), rv u2, iv (1 : Int32), iv (3 : Int32), iv (1 : Int32), iv c1]) rfl ?_
    refine XS.iload X3.here hx rfl (hb hby d5_15) rfl ?_
    refine XS.sipush X3.here hx rfl (hb hby d5_17) ?_
    refine XS.icmpYes X3.here hx rfl (pc0 := 20) (pc' := 26) rfl (hb hby d5_20) rfl (flt hc1.2).2.2.2 (by decide) (by decide) ?_
    refine XS.aloadN X3.here hx rfl (hb hby d5_26) rfl rfl ?_
    refine XS.iloadN X3.here hx rfl (hb hby d5_27) rfl ?_
    refine XS.iload X3.here hx rfl (hb hby d5_28) rfl ?_
    refine XS.i2b X3.here hx rfl (hb hby d5_30) rfl ?_
    refine st9 _ ?_
    refine XS.iinc X9.here hx rfl (hb hby d5_32) rfl (l' := #[rv u0, iv (2 : Int32), rv u2, iv (1 : Int32), iv (3 : Int32), iv (1 : Int32), iv c1]) rfl ?_
    refine XS.iinc X9.here hx rfl (hb hby d5_35) rfl (l' := #[rv u0, iv (2 : Int32), rv u2, iv (2 : Int32), iv (3 : Int32), iv (1 : Int32), iv c1]) rfl ?_
    refine XS.iinc X9.here hx rfl (hb hby d5_38) rfl (l' := #[rv u0, iv (2 : Int32), rv u2, iv (2 : Int32), iv (3 : Int32), iv (2 : Int32), iv c1]) rfl ?_
    refine XS.goto X9.here hx rfl (pc0 := 41) (pc' := 3) rfl (hb hby d5_41) (by decide) (by decide) ?_
    refine XS.iload X9.here hx rfl (hb hby d5_3) rfl ?_
    refine XS.iload X9.here hx rfl (hb hby d5_5) rfl ?_
    refine XS.icmpNo X9.here hx rfl (hb hby d5_7) rfl (tlt (by decide : (2 : Int32) < (3 : Int32))).2.1 ?_
    refine XS.aloadN X9.here hx rfl (hb hby d5_10) rfl rfl ?_
    refine XS.iloadN X9.here hx rfl (hb hby d5_11) rfl ?_
    refine X9.caload hx (j := (2 : Int32)) (v := (.int c2)) (by rw [e9]; exact Ar13.1) (State.isArrayOf_alike hZ.alike Ar13.2.1) Ar13.2.2 hin13 hat13 (g := (mkF m 12 #[rv u0, iv (2 : Int32), rv u2, iv (2 : Int32), iv (3 : Int32), iv (2 : Int32), iv c1] [(.int (2 : Int32)), (.ref u0)])) rfl rfl (hb hby d5_12) _ ?_
    refine XS.istore X9.here hx rfl (hb hby d5_13) rfl (l' := #[rv u0, iv (2 : Int32), rv u2, iv (2 : Int32), iv (3 : Int32), iv (2 : Int32), iv c2]) rfl ?_
    show Steps _ _ _ (T9.setTop (mkF m 15 #[rv u0, iv (2 : Int32), rv u2, iv (2 : Int32), iv (3 : Int32), iv (2 : Int32), iv c2] [])) _
    refine XS.iload X9.here hx rfl (hb hby d5_15) rfl ?_
    refine XS.sipush X9.here hx rfl (hb hby d5_17) ?_
    refine XS.icmpYes X9.here hx rfl (pc0 := 20) (pc' := 26) rfl (hb hby d5_20) rfl (flt hc2.2).2.2.2 (by decide) (by decide) ?_
    refine XS.aloadN X9.here hx rfl (hb hby d5_26) rfl rfl ?_
    refine XS.iloadN X9.here hx rfl (hb hby d5_27) rfl ?_
    refine XS.iload X9.here hx rfl (hb hby d5_28) rfl ?_
    refine XS.i2b X9.here hx rfl (hb hby d5_30) rfl ?_
    refine st15 _ ?_
    refine XS.iinc X15.here hx rfl (hb hby d5_32) rfl (l' := #[rv u0, iv (3 : Int32), rv u2, iv (2 : Int32), iv (3 : Int32), iv (2 : Int32), iv c2]) rfl ?_
    refine XS.iinc X15.here hx rfl (hb hby d5_35) rfl (l' := #[rv u0, iv (3 : Int32), rv u2, iv (3 : Int32), iv (3 : Int32), iv (2 : Int32), iv c2]) rfl ?_
    refine XS.iinc X15.here hx rfl (hb hby d5_38) rfl (l' := #[rv u0, iv (3 : Int32), rv u2, iv (3 : Int32), iv (3 : Int32), iv (3 : Int32), iv c2]) rfl ?_
    refine XS.goto X15.here hx rfl (pc0 := 41) (pc' := 3) rfl (hb hby d5_41) (by decide) (by decide) ?_
    refine XS.iload X15.here hx rfl (hb hby d5_3) rfl ?_
    refine XS.iload X15.here hx rfl (hb hby d5_5) rfl ?_
    refine XS.icmpYes X15.here hx rfl (pc0 := 7) (pc' := 44) rfl (hb hby d5_7) rfl (flt (by decide : ¬ ((3 : Int32) < (3 : Int32)))).2.1 (by decide) (by decide) ?_
    refine XS.iload X15.here hx rfl (hb hby d5_44) rfl ?_
    show Steps _ _ _ (T15.setTop (mkF m 46 #[rv u0, iv (3 : Int32), rv u2, iv (3 : Int32), iv (3 : Int32), iv (3 : Int32), iv c2] [(.int (3 : Int32))])) _
    exact retI X15 hx Bd.returns (hb hby d5_46) hr
  · show Q_rmC5_3 Z u0 u2 kA c0 c1 c2 kB d0 d1 d2 h0 n0 _ T15.heap _
    rw [e15]
    exact ⟨rfl, N16, K17, V15⟩

theorem ef_rmC3_3 (m : MethodId) (x0 : Addr) (x1 : Int32) (x2 : Int32) : entryFrame m #[(.ref x0), (.int x1), (.int x2)] 6 = mkF m 0 #[rv x0, iv x1, iv x2, .unset, .unset, .unset] [] := by first | (simp [entryFrame, mkF, argsToLocals, Value.category]; done) | rfl
def Q_rmC3_3 (Z : State) (u0 : Addr) (kA : ClassId) (c0 : Int32) (c1 : Int32) (c2 : Int32) (h0 : Heap) (n0 : Nat) (v : Option Value) (h : Heap) (L : List Loc) : Prop := ∃ (t : Addr), ∃ (kt : ClassId), (v = (some (.ref t)) ∧ Fr n0 L ∧ Keep h0 h [] ∧ h0.size ≤ t ∧ Exa Z h t "[B" ∧ Arv Z h t kt .byte (3 : Int32) [(.int (own_by c0)), (.int (own_by c1)), (.int (own_by c2))] (.int (0 : Int32)))
set_option maxRecDepth 65536 in
set_option maxHeartbeats 40000000 in
theorem rmC3_3 (l : Launch) (Z : State) (a0 : Array Value) (hw : ∀ d ∈ tables_1, d.before a0 Z = true) (ws : List Jvm.Cond) (u0 : Addr) (kA : ClassId) (c0 : Int32) (c1 : Int32) (c2 : Int32) (h0 : Heap) (n0 : Nat) (Z0 : n0 ≤ h0.size) (P_V_u0 : Arv Z h0 u0 kA .char (3 : Int32) [(.int c0), (.int c1), (.int c2)] (.int (0 : Int32))) (hc0 : ¬ c0 < 0 ∧ ¬ (255 : Int32) < c0) (hc1 : ¬ c1 < 0 ∧ ¬ (255 : Int32) < c1) (hc2 : ¬ c2 < 0 ∧ ¬ (255 : Int32) < c2) :
    own_MF l own_y31 (Jvm.Cond.code own_y31 jdk_52_method_16_code 6 (some (.array .byte))) ws ({ frames := 1, cells := 1, slots := 3, locals := 18 } : Room) #[(.ref u0), (.int (0 : Int32)), (.int (3 : Int32))] Z h0 (Q_rmC3_3 Z u0 kA c0 c1 c2 h0 n0) := by
  refine MetFree.of_bodySF (plainFor_of_name pn_4) hisR ?_
  intro p e s m args below meth c s₁ Bd hml0 hP hK
  obtain ⟨rfl, hZ, hh⟩ := hP
  have hx := Bd.exec
  have hby := Bd.bytes
  have hml : c.maxLocals = 6 := hml0
  have hown : s.vm.findClass "java/lang/StringUTF16" = some m.cls := findClass_of_methodNamed Bd.named
  have hnm := (name_of_methodNamed Bd.named Bd.method).1
  have X0 : Stand p l e ({ frames := 1, cells := 1, slots := 3, locals := 18 } : Room) s m #[(.ref u0), (.int (0 : Int32)), (.int (3 : Int32))] below meth c s₁ [] 0 0 := Stand.of_body Bd
  have e0 : s₁.heap = h0 := by rw [← hh, Bd.state]; rfl
  have N0 := Fr.nil n0
  have pre0 : ∀ t, Steps p.tables e below (s₁.setTop (mkF m 0 #[rv u0, iv (0 : Int32), iv (3 : Int32), .unset, .unset, .unset] [])) t → Steps p.tables e below (s₁.setTop (entryFrame m #[(.ref u0), (.int (0 : Int32)), (.int (3 : Int32))] 6)) t := fun t k => castTop (ef_rmC3_3 m u0 (0 : Int32) (3 : Int32)) k
  obtain ⟨T1, h1, k1, X1, e1, E1, A1, Q1, st1⟩ := newPE X0 hx hZ (own_g hw 31 rfl) e0 (g := (mkF m 1 #[rv u0, iv (0 : Int32), iv (3 : Int32), .unset, .unset, .unset] [(.int (3 : Int32))])) rfl (hb hby d4_1) rfl (by decide) (cap := 3) (by decide) (by decide) (by decide) (by decide) (ad := "[B") rfl
  obtain ⟨b1, g1⟩ : ∃ z, z = h0.size := ⟨_, rfl⟩
  rw [← g1] at A1 st1 Q1
  have ne2 : u0 ≠ b1 := Nat.ne_of_lt (Nat.lt_of_lt_of_le P_V_u0.lt (Nat.le_of_eq g1.symm))
  have o1 : n0 ≤ b1 := Nat.le_trans Z0 (Nat.le_of_eq g1.symm)
  have z1 : h0.size ≤ b1 := Nat.le_trans (Keep.refl h0 []).1 (Nat.le_of_eq g1.symm)
  have K1 : Keep h0 h1 [] := (Keep.refl h0 []).ext E1
  have V1 : Arv Z h1 b1 k1 .byte (3 : Int32) [(.int (0 : Int32)), (.int (0 : Int32)), (.int (0 : Int32))] (.int (0 : Int32)) := (Arv.new A1 (by decide)).pad (pad_rep [] (.int (0 : Int32)) 3)
  have f3 := (P_V_u0.ext E1)
  have f4 := (Nat.le_trans Z0 E1.1)
  obtain ⟨_, _, ⟨T5, L5, k5, n5⟩, -, X5, ⟨Lc5, hQ5, l5, y5, z5⟩, st5⟩ := Jvm.LawKit.callS X1 hx (y := own_y30) hown (mvT hZ (own_g hw 32 rfl)) (mvT hZ (own_g hw 33 rfl)) (mvT hZ (own_g hw 29 rfl)) (mvT hZ (own_g hw 34 rfl)) (by decide) (backOf (W := 0) (rmC5_3 l Z a0 hw [] u0 b1 kA c0 c1 c2 k1 (0 : Int32) (0 : Int32) (0 : Int32) h1 n0 f4 f3 V1 ne2 hc0 hc1 hc2 o1) hZ (own_g hw 34 rfl) (own_g hw 29 rfl) (by decide) (by decide)) (g := (mkF m 9 #[rv u0, iv (0 : Int32), iv (3 : Int32), rv b1, .unset, .unset] [(.int (3 : Int32)), (.int (0 : Int32)), (.ref b1), (.int (0 : Int32)), (.ref u0)])) rfl (by rw [hml]; rfl) (argsL := [(.ref u0), (.int (0 : Int32)), (.ref b1), (.int (0 : Int32)), (.int (3 : Int32))]) (rest := []) (lenOf pd___CI_BII_I rfl) rfl (by show 2 * 0 + _ ≤ _; exact Nat.le_of_eq rfl) (hb hby d4_9) (fun _ _ => ⟨rfl, e1, (by decide : 1 + 0 ≤ _), (by decide : 3 + 0 ≤ _)⟩)
  dsimp only [Pt.U, Pt.locs, Pt.cells, Pt.slots] at X5 l5 y5 z5 st5 hQ5
  subst l5 y5 z5
  obtain ⟨rfl, N5q, K5, f6⟩ := hQ5
  have KK5 : Keep h0 T5.heap [] := Keep.trans K1 K5 (allS (Or.inr z1) all0)
  have N5 := Fr.app N0 N5q
  obtain ⟨fs, hr, hrun, hended, hW, hsame⟩ := X5.leave (v := some (.ref b1)) (fun h => by rw [Bd.returns] at h; cases h)
  have f7 := (Q1.keep K5)
  refine ⟨_, _, pre0 _ ?_, hrun, hended, _, _, rfl, ?_, ⟨_, rfl⟩, hW, hsame.mono (by decide) (by decide)⟩
  · refine XS.iloadN X0.here hx rfl (hb hby d4_0) rfl ?_
    refine st1 _ ?_
    refine XS.astoreN X1.here hx rfl (hb hby d4_3) rfl rfl (l' := #[rv u0, iv (0 : Int32), iv (3 : Int32), rv b1, .unset, .unset]) rfl ?_
    refine XS.aloadN X1.here hx rfl (hb hby d4_4) rfl rfl ?_
    refine XS.iloadN X1.here hx rfl (hb hby d4_5) rfl ?_
    refine XS.aloadN X1.here hx rfl (hb hby d4_6) rfl rfl ?_
    refine XS.iconst X1.here hx rfl (hb hby d4_7) ?_
    refine XS.iloadN X1.here hx rfl (hb hby d4_8) rfl ?_
    show Steps _ _ _ (T1.setTop (mkF m 9 #[rv u0, iv (0 : Int32), iv (3 : Int32), rv b1, .unset, .unset] [(.int (3 : Int32)), (.int (0 : Int32)), (.ref b1), (.int (0 : Int32)), (.ref u0)])) _
    refine st5 _ ?_
    refine XS.istore X5.here hx rfl (hb hby d4_12) rfl (l' := #[rv u0, iv (0 : Int32), iv (3 : Int32), rv b1, iv (3 : Int32), .unset]) rfl ?_
    refine XS.iload X5.here hx rfl (hb hby d4_14) rfl ?_
    refine XS.iloadN X5.here hx rfl (hb hby d4_16) rfl ?_
    refine XS.icmpYes X5.here hx rfl (pc0 := 17) (pc' := 57) rfl (hb hby d4_17) rfl (teq (by decide : (3 : Int32) = (3 : Int32))).1 (by decide) (by decide) ?_
    refine XS.aloadN X5.here hx rfl (hb hby d4_57) rfl rfl ?_
    show Steps _ _ _ (T5.setTop (mkF m 58 #[rv u0, iv (0 : Int32), iv (3 : Int32), rv b1, iv (3 : Int32), .unset] [(.ref b1)])) _
    exact retOut X5 hx Bd.returns rfl (Or.inr (Or.inr (Or.inr (Or.inr ⟨rfl, rfl, rfl⟩)))) (hb hby d4_58) hr
  · show Q_rmC3_3 Z u0 kA c0 c1 c2 h0 n0 _ T5.heap _
    exact ⟨b1, k1, rfl, N5, KK5, z1, f7, f6⟩

theorem ef_rmCF3 (m : MethodId) (x0 : Addr) (x1 : Int32) : entryFrame m #[(.ref x0), (.int x1)] 2 = mkF m 0 #[rv x0, iv x1] [] := by first | (simp [entryFrame, mkF, argsToLocals, Value.category]; done) | rfl
set_option maxRecDepth 65536 in
set_option maxHeartbeats 40000000 in
theorem rmCF3 (l : Launch) (Z : State) (a0 : Array Value) (hw : ∀ d ∈ tables_1, d.before a0 Z = true) (ws : List Jvm.Cond) (u0 : Addr) (kt : ClassId) (vs : List Value) (h0 : Heap) (n0 : Nat) (Z0 : n0 ≤ h0.size) (P_G_u0 : Arv Z h0 u0 kt .byte (3 : Int32) vs (.int 0)) :
    own_MF l own_y32 (Jvm.Cond.code own_y32 jdk_52_method_15_code 2 (some .byte)) ws ({ frames := 0, cells := 0, slots := 0, locals := 0 } : Room) #[(.ref u0), (.int (3 : Int32))] Z h0 (own_QP (some (.int (0 : Int32))) h0 n0) := by
  refine MetFree.of_bodySF (plainFor_of_name pn_6) hisR ?_
  intro p e s m args below meth c s₁ Bd hml0 hP hK
  obtain ⟨rfl, hZ, hh⟩ := hP
  have hx := Bd.exec
  have hby := Bd.bytes
  have hml : c.maxLocals = 2 := hml0
  have hown : s.vm.findClass "java/lang/StringUTF16" = some m.cls := findClass_of_methodNamed Bd.named
  have hnm := (name_of_methodNamed Bd.named Bd.method).1
  have X0 : Stand p l e ({ frames := 0, cells := 0, slots := 0, locals := 0 } : Room) s m #[(.ref u0), (.int (3 : Int32))] below meth c s₁ [] 0 0 := Stand.of_body Bd
  have e0 : s₁.heap = h0 := by rw [← hh, Bd.state]; rfl
  have N0 := Fr.nil n0
  have pre0 : ∀ t, Steps p.tables e below (s₁.setTop (mkF m 0 #[rv u0, iv (3 : Int32)] [])) t → Steps p.tables e below (s₁.setTop (entryFrame m #[(.ref u0), (.int (3 : Int32))] 2)) t := fun t k => castTop (ef_rmCF3 m u0 (3 : Int32)) k
  obtain ⟨cl1, Ar1, qq1, S1, N1_, H1, G1⟩ := id P_G_u0
  obtain ⟨fs, hr, hrun, hended, hW, hsame⟩ := X0.leave (v := some (.int (0 : Int32))) (fun h => by rw [Bd.returns] at h; cases h)
  refine ⟨_, _, pre0 _ ?_, hrun, hended, _, _, rfl, ?_, ⟨_, rfl⟩, hW, hsame.mono (by decide) (by decide)⟩
  · refine XS.iloadN X0.here hx rfl (hb hby d6_0) rfl ?_
    refine XS.aloadN X0.here hx rfl (hb hby d6_1) rfl rfl ?_
    refine X0.arraylength hx (by rw [e0]; exact Ar1.1) (State.isArrayOf_alike hZ.alike Ar1.2.1) (g := (mkF m 2 #[rv u0, iv (3 : Int32)] [(.ref u0), (.int (3 : Int32))])) rfl rfl (hb hby d6_2) _ ?_
    rw [len_of S1 N1_]
    refine XS.isub X0.here hx rfl (hb hby d6_3) rfl ?_
    refine XS.bipush X0.here hx rfl (hb hby d6_4) ?_
    refine XS.iushr X0.here hx rfl (hb hby d6_6) rfl ?_
    show Steps _ _ _ (s₁.setTop (mkF m 7 #[rv u0, iv (3 : Int32)] [(.int (((0 : Int32).toUInt32 >>> ((31 : Int32) &&& 31).toUInt32).toInt32))])) _
    rw [(by decide : (((0 : Int32).toUInt32 >>> ((31 : Int32) &&& 31).toUInt32).toInt32) = (0 : Int32))]
    refine XS.i2b X0.here hx rfl (hb hby d6_7) rfl ?_
    show Steps _ _ _ (s₁.setTop (mkF m 8 #[rv u0, iv (3 : Int32)] [(.int ((0 : Int32).toInt8.toInt32))])) _
    rw [(by decide : ((0 : Int32).toInt8.toInt32) = (0 : Int32))]
    show Steps _ _ _ (s₁.setTop (mkF m 8 #[rv u0, iv (3 : Int32)] [(.int (0 : Int32))])) _
    exact retN X0 hx (t := .byte) Bd.returns (by simp) (hb hby d6_8) hr
  · show own_QP (some (.int (0 : Int32))) h0 n0 _ s₁.heap _
    rw [e0]
    exact ⟨rfl, N0, rfl⟩

theorem ef_rmI4_3 (m : MethodId) (x0 : Addr) (x1 : Addr) (x2 : Int32) (x3 : Int32) : entryFrame m #[(.ref x0), (.ref x1), (.int x2), (.int x3), .null] 6 = mkF m 0 #[rv x0, rv x1, iv x2, iv x3, .val .null, .unset] [] := by first | (simp [entryFrame, mkF, argsToLocals, Value.category]; done) | rfl
def Q_rmI4_3 (Z : State) (u0 : Addr) (u1 : Addr) (kA : ClassId) (c0 : Int32) (c1 : Int32) (c2 : Int32) (zC : Int32) (h0 : Heap) (n0 : Nat) (v : Option Value) (h : Heap) (L : List Loc) : Prop := ∃ (t : Addr), ∃ (kt : ClassId), (v = none ∧ Fr n0 L ∧ Keep h0 h [u0] ∧ h0.size ≤ t ∧ Exa Z h u0 "java/lang/String" ∧ Fld Z h u0 "java/lang/String" "value" "[B" (.ref t) ∧ Fld Z h u0 "java/lang/String" "coder" "B" (.int (0 : Int32)) ∧ Exa Z h t "[B" ∧ Arv Z h t kt .byte (3 : Int32) [(.int (own_by c0)), (.int (own_by c1)), (.int (own_by c2))] (.int (0 : Int32)))
set_option maxRecDepth 65536 in
set_option maxHeartbeats 40000000 in
theorem rmI4_3 (l : Launch) (Z : State) (a0 : Array Value) (hw : ∀ d ∈ tables_1, d.before a0 Z = true) (ws : List Jvm.Cond) (u0 : Addr) (u1 : Addr) (kA : ClassId) (c0 : Int32) (c1 : Int32) (c2 : Int32) (zC : Int32) (h0 : Heap) (n0 : Nat) (Z0 : n0 ≤ h0.size) (P_E_u0 : Exa Z h0 u0 "java/lang/String") (P_F_u0_String_value : Fld Z h0 u0 "java/lang/String" "value" "[B" .null) (P_F_u0_String_coder : Fld Z h0 u0 "java/lang/String" "coder" "B" (.int (0 : Int32))) (P_V_u1 : Arv Z h0 u1 kA .char (3 : Int32) [(.int c0), (.int c1), (.int c2)] (.int (0 : Int32))) (neA : u0 ≠ u1) (hc0 : ¬ c0 < 0 ∧ ¬ (255 : Int32) < c0) (hc1 : ¬ c1 < 0 ∧ ¬ (255 : Int32) < c1) (hc2 : ¬ c2 < 0 ∧ ¬ (255 : Int32) < c2) (P_S_String_COMPACT_STRINGS : Sta Z h0 "java/lang/String" "COMPACT_STRINGS" "Z" (.int zC)) (hz : ¬ (zC = (0 : Int32))) (g_u0 : n0 ≤ u0) :
    own_MF l own_y33 (Jvm.Cond.code own_y33 jdk_42_method_149_code 6 none) ws ({ frames := 2, cells := 1, slots := 3, locals := 35 } : Room) #[(.ref u0), (.ref u1), (.int (0 : Int32)), (.int (3 : Int32)), .null] Z h0 (Q_rmI4_3 Z u0 u1 kA c0 c1 c2 zC h0 n0) := by
  refine MetFree.of_bodySF (plainFor_of_name pn_2) hisR ?_
  intro p e s m args below meth c s₁ Bd hml0 hP hK
  obtain ⟨rfl, hZ, hh⟩ := hP
  have hx := Bd.exec
  have hby := Bd.bytes
  have hml : c.maxLocals = 6 := hml0
  have hown : s.vm.findClass "java/lang/String" = some m.cls := findClass_of_methodNamed Bd.named
  have hnm := (name_of_methodNamed Bd.named Bd.method).1
  have X0 : Stand p l e ({ frames := 2, cells := 1, slots := 3, locals := 35 } : Room) s m #[(.ref u0), (.ref u1), (.int (0 : Int32)), (.int (3 : Int32)), .null] below meth c s₁ [] 0 0 := Stand.of_body Bd
  have e0 : s₁.heap = h0 := by rw [← hh, Bd.state]; rfl
  have N0 := Fr.nil n0
  have pre0 : ∀ t, Steps p.tables e below (s₁.setTop (mkF m 0 #[rv u0, rv u1, iv (0 : Int32), iv (3 : Int32), .val .null, .unset] [])) t → Steps p.tables e below (s₁.setTop (entryFrame m #[(.ref u0), (.ref u1), (.int (0 : Int32)), (.int (3 : Int32)), .null] 6)) t := fun t k => castTop (ef_rmI4_3 m u0 u1 (0 : Int32) (3 : Int32)) k
  obtain ⟨T1, X1, e1, st1⟩ := initO X0 hx hZ hown (own_g hw 23 rfl) (own_g hw 24 rfl) (own_g hw 25 rfl) e0 (g := (mkF m 1 #[rv u0, rv u1, iv (0 : Int32), iv (3 : Int32), .val .null, .unset] [(.ref u0)])) rfl (by rw [hml]; rfl) rfl (hb hby d2_1) (by decide) (W := 0) (by show 2 * 0 + _ ≤ _; exact Nat.le_of_eq rfl) (by decide)
  obtain ⟨T2, X2, e2, st2⟩ := getS2 X1 hx hZ hown (host := "") (Or.inl (own_g hw 26 rfl)) Via.refl e1 P_S_String_COMPACT_STRINGS (g := (mkF m 27 #[rv u0, rv u1, iv (0 : Int32), iv (3 : Int32), .val .null, .unset] [])) rfl (hb hby d2_27)
  obtain ⟨_, _, ⟨T3, L3, k3, n3⟩, -, X3, ⟨Lc3, hQ3, l3, y3, z3⟩, st3⟩ := Jvm.LawKit.callS X2 hx (y := own_y31) hown (mvT hZ (own_g hw 27 rfl)) (mvT hZ (own_g hw 28 rfl)) (mvT hZ (own_g hw 29 rfl)) (mvT hZ (own_g hw 30 rfl)) (by decide) (backOf (W := 0) (rmC3_3 l Z a0 hw [] u1 kA c0 c1 c2 h0 n0 Z0 P_V_u1 hc0 hc1 hc2) hZ (own_g hw 30 rfl) (own_g hw 29 rfl) (by decide) (by decide)) (g := (mkF m 36 #[rv u0, rv u1, iv (0 : Int32), iv (3 : Int32), .val .null, .unset] [(.int (3 : Int32)), (.int (0 : Int32)), (.ref u1)])) rfl (by rw [hml]; rfl) (argsL := [(.ref u1), (.int (0 : Int32)), (.int (3 : Int32))]) (rest := []) (lenOf pd___CII__B rfl) rfl (by show 2 * 0 + _ ≤ _; exact Nat.le_of_eq rfl) (hb hby d2_36) (fun _ _ => ⟨rfl, e2, (by decide : 0 + 1 ≤ _), (by decide : 0 + 3 ≤ _)⟩)
  dsimp only [Pt.U, Pt.locs, Pt.cells, Pt.slots] at X3 l3 y3 z3 st3 hQ3
  subst l3 y3 z3
  obtain ⟨t_3, kt_3, rfl, N3q, K3, sx3_0, f4, f5⟩ := hQ3
  have ot_3 : n0 ≤ t_3 := Nat.le_trans Z0 sx3_0
  have zt_3 : h0.size ≤ t_3 := Nat.le_trans (Keep.refl h0 [u0]).1 sx3_0
  have ne6 : u0 ≠ t_3 := Nat.ne_of_lt (Nat.lt_of_lt_of_le P_E_u0.lt sx3_0)
  have ne7 : u1 ≠ t_3 := Nat.ne_of_lt (Nat.lt_of_lt_of_le P_V_u1.lt sx3_0)
  have KK3 : Keep h0 T3.heap [u0] := Keep.trans (Keep.refl h0 [u0]) K3 all0
  have N3 := Fr.app N0 N3q
  have f8 := (Nat.le_trans Z0 K3.1)
  obtain ⟨_, _, ⟨T9, L9, k9, n9⟩, -, X9, ⟨Lc9, hQ9, l9, y9, z9⟩, st9⟩ := Jvm.LawKit.callS X3 hx (y := own_y32) hown (mvT hZ (own_g hw 35 rfl)) (mvT hZ (own_g hw 36 rfl)) (mvT hZ (own_g hw 29 rfl)) (mvT hZ (own_g hw 37 rfl)) (by decide) (backOf (W := 1) (rmCF3 l Z a0 hw [] t_3 kt_3 [(.int (own_by c0)), (.int (own_by c1)), (.int (own_by c2))] T3.heap n0 f8 f5) hZ (own_g hw 37 rfl) (own_g hw 29 rfl) (by decide) (by decide)) (g := (mkF m 45 #[rv u0, rv u1, iv (0 : Int32), iv (3 : Int32), .val .null, rv t_3] [(.int (3 : Int32)), (.ref t_3), (.ref u0)])) rfl (by rw [hml]; rfl) (argsL := [(.ref t_3), (.int (3 : Int32))]) (rest := [(.ref u0)]) (lenOf pd___BI_B rfl) rfl (by show 2 * 0 + _ ≤ _; exact Nat.le_of_eq rfl) (hb hby d2_45) (fun _ _ => ⟨rfl, rfl, (by decide : 1 + 0 ≤ _), (by decide : 3 + 0 ≤ _)⟩)
  dsimp only [Pt.U, Pt.locs, Pt.cells, Pt.slots] at X9 l9 y9 z9 st9 hQ9
  subst l9 y9 z9
  obtain ⟨rfl, N9q, e9⟩ := hQ9
  have N9 := Fr.app N3 N9q
  have f10 := (P_E_u0.keep K3)
  have f11 := (P_F_u0_String_coder.keep K3 nin0)
  obtain ⟨T12, h12, X12, e12, W12, st12⟩ := putFN X9 hx hZ hown (own_g hw 38 rfl) Via.refl e9 f11 f10 (Or.inr ⟨(own_g hw 39 rfl), rfl, hnm⟩) (own_g hw 13 rfl) (ty := .byte) (v' := (.int (0 : Int32))) (by decide) rfl rfl (g := (mkF m 48 #[rv u0, rv u1, iv (0 : Int32), iv (3 : Int32), .val .null, rv t_3] [(.int (0 : Int32)), (.ref u0)])) rfl rfl (hb hby d2_48)
  have f12_ : Fld Z h12 u0 "java/lang/String" "coder" "B" (.int (0 : Int32)) := f11.same W12
  have N13 := Fr.snoc X12 N9 g_u0
  have K14 : Keep h0 h12 [u0] := KK3.wr W12 (Or.inl (List.mem_of_getElem? (i := 0) rfl))
  have f15 := (f10.wr W12)
  have f16 := ((P_F_u0_String_value.keep K3 nin0).other W12 (Or.inr (slot_ne (Or.inr (own_g hw 41 rfl)) (Or.inr (own_g hw 39 rfl)) (by decide) (t := (.array .byte)) (t' := .byte) (by decide) (by decide))))
  obtain ⟨T17, h17, X17, e17, W17, st17⟩ := putF X12 hx hZ hown (host := "") (Or.inl (own_g hw 40 rfl)) Via.refl e12 f16 f15 (Or.inr ⟨(own_g hw 41 rfl), rfl, hnm⟩) (own_g hw 13 rfl) (ty := (.array .byte)) (by decide) rfl rfl (g := (mkF m 54 #[rv u0, rv u1, iv (0 : Int32), iv (3 : Int32), .val .null, rv t_3] [(.ref t_3), (.ref u0)])) rfl rfl (hb hby d2_54)
  have f17_ : Fld Z h17 u0 "java/lang/String" "value" "[B" (.ref t_3) := f16.same W17
  have N18 := Fr.snoc X17 N13 g_u0
  have K19 : Keep h0 h17 [u0] := K14.wr W17 (Or.inl (List.mem_of_getElem? (i := 0) rfl))
  obtain ⟨fs, hr, hrun, hended, hW, hsame⟩ := X17.leave (v := none) (fun _ => rfl)
  have f20 := (f15.wr W17)
  have f21 := (f12_.other W17 (Or.inr (slot_ne (Or.inr (own_g hw 39 rfl)) (Or.inr (own_g hw 41 rfl)) (by decide) (t := .byte) (t' := (.array .byte)) (by decide) (by decide))))
  have f22 := ((f4.wr W12).wr W17)
  have f23 := ((f5.other W12 (Ne.symm ne6)).other W17 (Ne.symm ne6))
  refine ⟨_, _, pre0 _ ?_, hrun, hended, _, _, rfl, ?_, ⟨_, rfl⟩, hW, hsame.mono (by decide) (by decide)⟩
  · refine XS.aloadN X0.here hx rfl (hb hby d2_0) rfl rfl ?_
    show Steps _ _ _ (s₁.setTop (mkF m 1 #[rv u0, rv u1, iv (0 : Int32), iv (3 : Int32), .val .null, .unset] [(.ref u0)])) _
    refine st1 _ ?_
    refine XS.iloadN X1.here hx rfl (hb hby d2_4) rfl ?_
    refine XS.ifYes X1.here hx rfl (pc0 := 5) (pc' := 27) rfl (hb hby d2_5) rfl ((if0 _ _).trans (feq (by decide : ¬ ((3 : Int32) = (0 : Int32)))).2) (by decide) (by decide) ?_
    refine st2 _ ?_
    refine XS.ifNo X2.here hx rfl (hb hby d2_30) rfl ((if0 _ _).trans (feq hz).1) ?_
    refine XS.aloadN X2.here hx rfl (hb hby d2_33) rfl rfl ?_
    refine XS.iloadN X2.here hx rfl (hb hby d2_34) rfl ?_
    refine XS.iloadN X2.here hx rfl (hb hby d2_35) rfl ?_
    show Steps _ _ _ (T2.setTop (mkF m 36 #[rv u0, rv u1, iv (0 : Int32), iv (3 : Int32), .val .null, .unset] [(.int (3 : Int32)), (.int (0 : Int32)), (.ref u1)])) _
    refine st3 _ ?_
    refine XS.astore X3.here hx rfl (hb hby d2_39) rfl rfl (l' := #[rv u0, rv u1, iv (0 : Int32), iv (3 : Int32), .val .null, rv t_3]) rfl ?_
    refine XS.aloadN X3.here hx rfl (hb hby d2_41) rfl rfl ?_
    refine XS.aload X3.here hx rfl (hb hby d2_42) rfl rfl ?_
    refine XS.iloadN X3.here hx rfl (hb hby d2_44) rfl ?_
    show Steps _ _ _ (T3.setTop (mkF m 45 #[rv u0, rv u1, iv (0 : Int32), iv (3 : Int32), .val .null, rv t_3] [(.int (3 : Int32)), (.ref t_3), (.ref u0)])) _
    refine st9 _ ?_
    refine st12 _ ?_
    refine XS.aloadN X12.here hx rfl (hb hby d2_51) rfl rfl ?_
    refine XS.aload X12.here hx rfl (hb hby d2_52) rfl rfl ?_
    refine st17 _ ?_
    show Steps _ _ _ (T17.setTop (mkF m 57 #[rv u0, rv u1, iv (0 : Int32), iv (3 : Int32), .val .null, rv t_3] [])) _
    exact X17.returnOut hx Bd.returns (hb hby d2_57) hr
  · show Q_rmI4_3 Z u0 u1 kA c0 c1 c2 zC h0 n0 _ T17.heap _
    rw [e17]
    exact ⟨t_3, kt_3, rfl, N18, K19, zt_3, f20, f17_, f21, f22, f23⟩

theorem ef_rmI1_3 (m : MethodId) (x0 : Addr) (x1 : Addr) : entryFrame m #[(.ref x0), (.ref x1)] 2 = mkF m 0 #[rv x0, rv x1] [] := by first | (simp [entryFrame, mkF, argsToLocals, Value.category]; done) | rfl
def Q_rmI1_3 (Z : State) (u0 : Addr) (u1 : Addr) (kA : ClassId) (c0 : Int32) (c1 : Int32) (c2 : Int32) (zC : Int32) (h0 : Heap) (n0 : Nat) (v : Option Value) (h : Heap) (L : List Loc) : Prop := ∃ (t : Addr), ∃ (kt : ClassId), (v = none ∧ Fr n0 L ∧ Keep h0 h [u0] ∧ h0.size ≤ t ∧ Exa Z h u0 "java/lang/String" ∧ Fld Z h u0 "java/lang/String" "value" "[B" (.ref t) ∧ Fld Z h u0 "java/lang/String" "coder" "B" (.int (0 : Int32)) ∧ Exa Z h t "[B" ∧ Arv Z h t kt .byte (3 : Int32) [(.int (own_by c0)), (.int (own_by c1)), (.int (own_by c2))] (.int (0 : Int32)))
set_option maxRecDepth 65536 in
set_option maxHeartbeats 40000000 in
theorem rmI1_3 (l : Launch) (Z : State) (a0 : Array Value) (hw : ∀ d ∈ tables_1, d.before a0 Z = true) (ws : List Jvm.Cond) (u0 : Addr) (u1 : Addr) (kA : ClassId) (c0 : Int32) (c1 : Int32) (c2 : Int32) (zC : Int32) (h0 : Heap) (n0 : Nat) (Z0 : n0 ≤ h0.size) (P_E_u0 : Exa Z h0 u0 "java/lang/String") (P_F_u0_String_value : Fld Z h0 u0 "java/lang/String" "value" "[B" .null) (P_F_u0_String_coder : Fld Z h0 u0 "java/lang/String" "coder" "B" (.int (0 : Int32))) (P_V_u1 : Arv Z h0 u1 kA .char (3 : Int32) [(.int c0), (.int c1), (.int c2)] (.int (0 : Int32))) (neA : u0 ≠ u1) (hc0 : ¬ c0 < 0 ∧ ¬ (255 : Int32) < c0) (hc1 : ¬ c1 < 0 ∧ ¬ (255 : Int32) < c1) (hc2 : ¬ c2 < 0 ∧ ¬ (255 : Int32) < c2) (P_S_String_COMPACT_STRINGS : Sta Z h0 "java/lang/String" "COMPACT_STRINGS" "Z" (.int zC)) (hz : ¬ (zC = (0 : Int32))) (g_u0 : n0 ≤ u0) :
    own_MF l own_y34 (Jvm.Cond.code own_y34 jdk_42_method_3_code 2 none) ws ({ frames := 3, cells := 1, slots := 3, locals := 52 } : Room) #[(.ref u0), (.ref u1)] Z h0 (Q_rmI1_3 Z u0 u1 kA c0 c1 c2 zC h0 n0) := by
  refine MetFree.of_bodySF (plainFor_of_name pn_1) hisR ?_
  intro p e s m args below meth c s₁ Bd hml0 hP hK
  obtain ⟨rfl, hZ, hh⟩ := hP
  have hx := Bd.exec
  have hby := Bd.bytes
  have hml : c.maxLocals = 2 := hml0
  have hown : s.vm.findClass "java/lang/String" = some m.cls := findClass_of_methodNamed Bd.named
  have hnm := (name_of_methodNamed Bd.named Bd.method).1
  have X0 : Stand p l e ({ frames := 3, cells := 1, slots := 3, locals := 52 } : Room) s m #[(.ref u0), (.ref u1)] below meth c s₁ [] 0 0 := Stand.of_body Bd
  have e0 : s₁.heap = h0 := by rw [← hh, Bd.state]; rfl
  have N0 := Fr.nil n0
  have pre0 : ∀ t, Steps p.tables e below (s₁.setTop (mkF m 0 #[rv u0, rv u1] [])) t → Steps p.tables e below (s₁.setTop (entryFrame m #[(.ref u0), (.ref u1)] 2)) t := fun t k => castTop (ef_rmI1_3 m u0 u1) k
  obtain ⟨cl1, Ar1, qq1, S1, N1_, H1, G1⟩ := id P_V_u1
  obtain ⟨_, _, ⟨T2, L2, k2, n2⟩, -, X2, ⟨Lc2, hQ2, l2, y2, z2⟩, st2⟩ := X0.specialBack hx (y := own_y33) rfl hown (mvT hZ (own_g hw 19 rfl)) (mvT hZ (own_g hw 20 rfl)) (mvT hZ (own_g hw 22 rfl)) (by decide) (backOf (W := 0) (rmI4_3 l Z a0 hw [] u0 u1 kA c0 c1 c2 zC h0 n0 Z0 P_E_u0 P_F_u0_String_value P_F_u0_String_coder P_V_u1 neA hc0 hc1 hc2 P_S_String_COMPACT_STRINGS hz g_u0) hZ (own_g hw 22 rfl) (own_g hw 14 rfl) (by decide) (by decide)) (g := (mkF m 6 #[rv u0, rv u1] [.null, (.int (3 : Int32)), (.int (0 : Int32)), (.ref u1), (.ref u0)])) rfl (by rw [hml]; rfl) (Steps.refl _) (a := u0) (argsL := [(.ref u1), (.int (0 : Int32)), (.int (3 : Int32)), .null]) (rest := []) (lenOf pd___CIILjava_lang_Void__V rfl) rfl (by show 2 * 0 + _ ≤ _; exact Nat.le_of_eq rfl) (hb hby d1_6) (fun _ _ => ⟨rfl, e0, (by decide : 0 + 1 ≤ _), (by decide : 0 + 3 ≤ _)⟩)
  dsimp only [Pt.U, Pt.locs, Pt.cells, Pt.slots] at X2 l2 y2 z2 st2 hQ2
  subst l2 y2 z2
  obtain ⟨t_2, kt_2, rfl, N2q, K2, sx2_0, f3, f4, f5, f6, f7⟩ := hQ2
  have ot_2 : n0 ≤ t_2 := Nat.le_trans Z0 sx2_0
  have zt_2 : h0.size ≤ t_2 := Nat.le_trans (Keep.refl h0 [u0]).1 sx2_0
  have ne8 : u0 ≠ t_2 := Nat.ne_of_lt (Nat.lt_of_lt_of_le P_E_u0.lt sx2_0)
  have ne9 : u1 ≠ t_2 := Nat.ne_of_lt (Nat.lt_of_lt_of_le P_V_u1.lt sx2_0)
  have KK2 : Keep h0 T2.heap [u0] := Keep.trans (Keep.refl h0 [u0]) K2 (allS (Or.inl (List.mem_of_getElem? (i := 0) rfl)) all0)
  have N2 := Fr.app N0 N2q
  obtain ⟨fs, hr, hrun, hended, hW, hsame⟩ := X2.leave (v := none) (fun _ => rfl)
  refine ⟨_, _, pre0 _ ?_, hrun, hended, _, _, rfl, ?_, ⟨_, rfl⟩, hW, hsame.mono (by decide) (by decide)⟩
  · refine XS.aloadN X0.here hx rfl (hb hby d1_0) rfl rfl ?_
    refine XS.aloadN X0.here hx rfl (hb hby d1_1) rfl rfl ?_
    refine XS.iconst X0.here hx rfl (hb hby d1_2) ?_
    refine XS.aloadN X0.here hx rfl (hb hby d1_3) rfl rfl ?_
    refine X0.arraylength hx (by rw [e0]; exact Ar1.1) (State.isArrayOf_alike hZ.alike Ar1.2.1) (g := (mkF m 4 #[rv u0, rv u1] [(.ref u1), (.int (0 : Int32)), (.ref u1), (.ref u0)])) rfl rfl (hb hby d1_4) _ ?_
    rw [len_of S1 N1_]
    refine XS.aconstNull X0.here hx rfl (hb hby d1_5) ?_
    show Steps _ _ _ (s₁.setTop (mkF m 6 #[rv u0, rv u1] [.null, (.int (3 : Int32)), (.int (0 : Int32)), (.ref u1), (.ref u0)])) _
    refine st2.trans ?_
    show Steps _ _ _ (T2.setTop (mkF m 9 #[rv u0, rv u1] [])) _
    exact X2.returnOut hx Bd.returns (hb hby d1_9) hr
  · show Q_rmI1_3 Z u0 u1 kA c0 c1 c2 zC h0 n0 _ T2.heap _
    exact ⟨t_2, kt_2, rfl, N2, KK2, zt_2, f3, f4, f5, f6, f7⟩

theorem ef_rmI4_0 (m : MethodId) (x0 : Addr) (x1 : Addr) (x2 : Int32) (x3 : Int32) : entryFrame m #[(.ref x0), (.ref x1), (.int x2), (.int x3), .null] 6 = mkF m 0 #[rv x0, rv x1, iv x2, iv x3, .val .null, .unset] [] := by first | (simp [entryFrame, mkF, argsToLocals, Value.category]; done) | rfl
def Q_rmI4_0 (Z : State) (u0 : Addr) (u1 : Addr) (h0 : Heap) (n0 : Nat) (v : Option Value) (h : Heap) (L : List Loc) : Prop := ∃ (t : Jvm.Addr), ∃ (kt : ClassId), (v = none ∧ Fr n0 L ∧ Keep h0 h [u0] ∧ Exa Z h u0 "java/lang/String" ∧ Fld Z h u0 "java/lang/String" "value" "[B" (.ref t) ∧ Fld Z h u0 "java/lang/String" "coder" "B" (.int (0 : Int32)) ∧ Exa Z h t "[B" ∧ Arv Z h t kt .byte (0 : Int32) [] (.int (0 : Int32)))
set_option maxRecDepth 65536 in
set_option maxHeartbeats 40000000 in
theorem rmI4_0 (l : Launch) (Z : State) (a0 : Array Value) (hw : ∀ d ∈ tables_1, d.before a0 Z = true) (ws : List Jvm.Cond) (u0 : Addr) (u1 : Addr) (h0 : Heap) (n0 : Nat) (Z0 : n0 ≤ h0.size) (P_E_u0 : Exa Z h0 u0 "java/lang/String") (P_F_u0_String_value : Fld Z h0 u0 "java/lang/String" "value" "[B" .null) (P_F_u0_String_coder : Fld Z h0 u0 "java/lang/String" "coder" "B" (.int (0 : Int32))) (g_u0 : n0 ≤ u0) :
    MetFree l own_y33 (head1 (Jvm.Cond.code own_y33 jdk_42_method_149_code 6 none :: ws) ({ frames := 1, cells := 4, slots := 8, locals := 12 } : Room)) (fun a U => a = #[(.ref u0), (.ref u1), (.int (0 : Int32)), (.int (0 : Int32)), .null] ∧ Z.Warmed39 U.vm ∧ U.heap = h0 ∧ CHv Z own_EL U.vm h0) (fun _ _ _ _ _ => True) (fun _ U o U' => ∃ v L, o = .returned v ∧ Q_rmI4_0 Z u0 u1 h0 n0 v U'.heap L ∧ CHr Z own_EL U.vm U.heap U'.vm U'.heap ∧ ReturnedEndW U o U' L ({ frames := 1, cells := 4, slots := 8, locals := 12 } : Room).cells ({ frames := 1, cells := 4, slots := 8, locals := 12 } : Room).slots) := by
  refine MetFree.of_bodySF (plainFor_of_name pn_2) hisR ?_
  intro p e s m args below meth c s₁ Bd hml0 hP hK
  obtain ⟨rfl, hZ, hh, hCH⟩ := hP
  have hx := Bd.exec
  have hby := Bd.bytes
  have hml : c.maxLocals = 6 := hml0
  have hown : s.vm.findClass "java/lang/String" = some m.cls := findClass_of_methodNamed Bd.named
  have hnm := (name_of_methodNamed Bd.named Bd.method).1
  have X0 : Stand p l e ({ frames := 1, cells := 4, slots := 8, locals := 12 } : Room) s m #[(.ref u0), (.ref u1), (.int (0 : Int32)), (.int (0 : Int32)), .null] below meth c s₁ [] 0 0 := Stand.of_body Bd
  have e0 : s₁.heap = h0 := by rw [← hh, Bd.state]; rfl
  have N0 := Fr.nil n0
  have pre0 : ∀ t, Steps p.tables e below (s₁.setTop (mkF m 0 #[rv u0, rv u1, iv (0 : Int32), iv (0 : Int32), .val .null, .unset] [])) t → Steps p.tables e below (s₁.setTop (entryFrame m #[(.ref u0), (.ref u1), (.int (0 : Int32)), (.int (0 : Int32)), .null] 6)) t := fun t k => castTop (ef_rmI4_0 m u0 u1 (0 : Int32) (0 : Int32)) k
  have hEL : EW Z a0 own_EL := own_hEL hw
  have wS : ∀ a ∈ Bundle.stringAtoms, a.before a0 Z = true := fun d hd => hw d ((by decide +kernel : ∀ d ∈ Bundle.stringAtoms, d ∈ tables_1) d hd)
  have CH0 : CHr Z own_EL s.vm h0 s.vm h0 := CHr.refl hCH
  have hS0 : s.Since s.vm h0.size := (State.WarmedH.refl s).since _
  have Y_u0 : Safe Z own_EL s.vm h0 u0 := own_safeN hZ.alike P_E_u0 P_F_u0_String_value
  have pre1 : ∀ t, Steps p.tables e below (s₁.setTop (mkF m 1 #[rv u0, rv u1, iv (0 : Int32), iv (0 : Int32), .val .null, .unset] [(.ref u0)])) t → Steps p.tables e below (s₁.setTop (entryFrame m #[(.ref u0), (.ref u1), (.int (0 : Int32)), (.int (0 : Int32)), .null] 6)) t := fun t kt => pre0 t (by
   refine XS.aloadN X0.here hx rfl (hb hby d2_0) rfl rfl ?_
   exact kt)
  obtain ⟨T2, X2, e2, st2⟩ := initO X0 hx hZ hown (own_g hw 23 rfl) (own_g hw 24 rfl) (own_g hw 25 rfl) e0 (g := (mkF m 1 #[rv u0, rv u1, iv (0 : Int32), iv (0 : Int32), .val .null, .unset] [(.ref u0)])) rfl (by rw [hml]; rfl) rfl (hb hby d2_1) (by decide) (W := 0) (by show 2 * 0 + _ ≤ _; exact Nat.le_of_eq rfl) (by decide)
  have pre3 : ∀ t, Steps p.tables e below (T2.setTop (mkF m 9 #[rv u0, rv u1, iv (0 : Int32), iv (0 : Int32), .val .null, .unset] [(.ref u0)])) t → Steps p.tables e below (s₁.setTop (entryFrame m #[(.ref u0), (.ref u1), (.int (0 : Int32)), (.int (0 : Int32)), .null] 6)) t := fun t kt => pre1 t (by
   show Steps _ _ _ (s₁.setTop (mkF m 1 #[rv u0, rv u1, iv (0 : Int32), iv (0 : Int32), .val .null, .unset] [(.ref u0)])) _
   refine st2 _ ?_
   refine XS.iloadN X2.here hx rfl (hb hby d2_4) rfl ?_
   refine XS.ifNo X2.here hx rfl (hb hby d2_5) rfl ((if0 _ _).trans (teq (by decide : (0 : Int32) = (0 : Int32))).2) ?_
   refine XS.aloadN X2.here hx rfl (hb hby d2_8) rfl rfl ?_
   exact kt)
  obtain ⟨a4, T4, h4, kk4, b4, kc4, X4, e4, E4, hS4, hk4, hZ4, hown4, Ea4, Ca4, Va4, Aa4, la4, lb4, CHq4, Lt4, nx4, st4⟩ := ldcCH (vs := []) (z := (0 : Int32)) (show Stand p l e ({ frames := 1, cells := 4, slots := 8, locals := 12 } : Room) (s.setVm s.vm) m _ below meth c _ _ _ _ from X2) hx hZ hown (own_g hw 208 rfl) wS e2 hS0 (Nat.le_refl h0.size) hEL (List.mem_of_getElem? (i := 3) rfl) CH0.1 ⟨by decide, rfl⟩ (by decide) rfl (g := (mkF m 9 #[rv u0, rv u1, iv (0 : Int32), iv (0 : Int32), .val .null, .unset] [(.ref u0)])) rfl (hb hby d2_9) (n := 0) (by decide) (by decide) (by decide) (by decide)
  have K4 : Keep h0 h4 [u0] := (Keep.refl h0 [u0]).ext E4
  have CH5 : CHr Z own_EL s.vm h0 T4.vm h4 := CH0.trans CHq4
  have Yr6 : Safe Z own_EL T4.vm h4 u0 := CHr.safe CHq4 P_E_u0.lt Y_u0
  have Qb4 : Exa Z h4 b4 "[B" := own_litB hZ4.alike Aa4 (Classical.byContradiction fun S_ => (nx4 b4 S_).2 rfl)
  obtain ⟨T7, X7, e7, st7⟩ := getF X4 hx hZ4 hown4 (host := "") (Or.inl (own_g hw 40 rfl)) Via.refl e4 Va4 (g := (mkF m 11 #[rv u0, rv u1, iv (0 : Int32), iv (0 : Int32), .val .null, .unset] [(.ref a4), (.ref u0)])) rfl rfl (hb hby d2_11)
  have f8 := (P_E_u0.ext E4)
  have f9 := (P_F_u0_String_value.ext E4)
  obtain ⟨T10, h10, X10, e10, W10, st10⟩ := putF X7 hx hZ4 hown4 (host := "") (Or.inl (own_g hw 40 rfl)) Via.refl e7 f9 f8 (Or.inr ⟨(own_g hw 41 rfl), rfl, hnm⟩) (own_g hw 13 rfl) (ty := (.array .byte)) (by decide) rfl rfl (g := (mkF m 14 #[rv u0, rv u1, iv (0 : Int32), iv (0 : Int32), .val .null, .unset] [(.ref b4), (.ref u0)])) rfl rfl (hb hby d2_14)
  have CH11 : CHr Z own_EL s.vm h0 T4.vm h10 := CH5.trans (CHr.wr W10 Yr6 CH5.1)
  have f10_ : Fld Z h10 u0 "java/lang/String" "value" "[B" (.ref b4) := f9.same W10
  have N12 := Fr.snoc X10 N0 g_u0
  have K13 : Keep h0 h10 [u0] := K4.wr W10 (Or.inl (List.mem_of_getElem? (i := 0) rfl))
  have pre14 : ∀ t, Steps p.tables e below (T10.setTop (mkF m 18 #[rv u0, rv u1, iv (0 : Int32), iv (0 : Int32), .val .null, .unset] [(.ref u0)])) t → Steps p.tables e below (s₁.setTop (entryFrame m #[(.ref u0), (.ref u1), (.int (0 : Int32)), (.int (0 : Int32)), .null] 6)) t := fun t kt => pre3 t (by
   refine st4 _ ?_
   refine st7 _ ?_
   refine st10 _ ?_
   refine XS.aloadN X10.here hx rfl (hb hby d2_17) rfl rfl ?_
   exact kt)
  have f15 := (Nat.le_trans hk4 (Keep.of_wr W10).1)
  have f16 : Safe Z own_EL T4.vm h10 u0 := (Safe.wr W10 Yr6 CH5.1 Yr6)
  have f17 := (f8.wr W10)
  obtain ⟨a18, T18, h18, kk18, b18, kc18, X18, e18, E18, hS18, hk18, hZ18, hown18, Ea18, Ca18, Va18, Aa18, la18, lb18, CHq18, Lt18, nx18, st18⟩ := ldcCH (vs := []) (z := (0 : Int32)) (show Stand p l e ({ frames := 1, cells := 4, slots := 8, locals := 12 } : Room) (s.setVm T4.vm) m _ below meth c _ _ _ _ from X10) hx hZ4 hown4 (own_g hw 208 rfl) wS e10 hS4 f15 hEL (List.mem_of_getElem? (i := 3) rfl) CH11.1 ⟨by decide, rfl⟩ (by decide) rfl (g := (mkF m 18 #[rv u0, rv u1, iv (0 : Int32), iv (0 : Int32), .val .null, .unset] [(.ref u0)])) rfl (hb hby d2_18) (n := 0) (by decide) (by decide) (by decide) (by decide)
  have K18 : Keep h0 h18 [u0] := K13.ext E18
  have CH19 : CHr Z own_EL s.vm h0 T18.vm h18 := CH11.trans CHq18
  have Yr20 : Safe Z own_EL T18.vm h18 u0 := CHr.safe CHq18 f17.lt f16
  have Qb18 : Exa Z h18 b18 "[B" := own_litB hZ18.alike Aa18 (Classical.byContradiction fun S_ => (nx18 b18 S_).2 rfl)
  obtain ⟨T21, X21, e21, st21⟩ := getF X18 hx hZ18 hown18 (host := "") (Or.inl (own_g hw 38 rfl)) Via.refl e18 Ca18 (g := (mkF m 20 #[rv u0, rv u1, iv (0 : Int32), iv (0 : Int32), .val .null, .unset] [(.ref a18), (.ref u0)])) rfl rfl (hb hby d2_20)
  have f22 := (f17.ext E18)
  have f23 := (((P_F_u0_String_coder.ext E4).other W10 (Or.inr (slot_ne (Or.inr (own_g hw 39 rfl)) (Or.inr (own_g hw 41 rfl)) (by decide) (t := .byte) (t' := (.array .byte)) (by decide) (by decide)))).ext E18)
  obtain ⟨T24, h24, X24, e24, W24, st24⟩ := putFN X21 hx hZ18 hown18 (own_g hw 38 rfl) Via.refl e21 f23 f22 (Or.inr ⟨(own_g hw 39 rfl), rfl, hnm⟩) (own_g hw 13 rfl) (ty := .byte) (v' := (.int (0 : Int32))) (by decide) rfl rfl (g := (mkF m 23 #[rv u0, rv u1, iv (0 : Int32), iv (0 : Int32), .val .null, .unset] [(.int (0 : Int32)), (.ref u0)])) rfl rfl (hb hby d2_23)
  have CH25 : CHr Z own_EL s.vm h0 T18.vm h24 := CH19.trans (CHr.wr W24 Yr20 CH19.1)
  have f24_ : Fld Z h24 u0 "java/lang/String" "coder" "B" (.int (0 : Int32)) := f23.same W24
  have N26 := Fr.snoc X24 N12 g_u0
  have K27 : Keep h0 h24 [u0] := K18.wr W24 (Or.inl (List.mem_of_getElem? (i := 0) rfl))
  obtain ⟨fs, hr, hrun, hended, hW, hsame⟩ := X24.leave (v := none) (fun _ => rfl)
  have f28 := (f22.wr W24)
  have f29 := ((f10_.ext E18).other W24 (Or.inr (slot_ne (Or.inr (own_g hw 41 rfl)) (Or.inr (own_g hw 39 rfl)) (by decide) (t := (.array .byte)) (t' := .byte) (by decide) (by decide))))
  have f30 := (((Qb4.wr W10).ext E18).wr W24)
  have f31 := (((Aa4.other W10 (Ne.symm (nx4 u0 Yr6).2)).ext E18).other W24 (Ne.symm (nx4 u0 Yr6).2))
  have f32 := (Nat.le_trans hk18 (Keep.of_wr W24).1)
  have qE := hS18.ended (c := ({ frames := 1, cells := 4, slots := 8, locals := 12 } : Room).cells) (k := ({ frames := 1, cells := 4, slots := 8, locals := 12 } : Room).slots) hW (show _ ≤ T24.heap.size from (by rw [e24]; exact f32)) (hsame.mono (by decide) (by decide))
  have qC : CHr Z own_EL s.vm s.heap T24.vm T24.heap := by rw [hh, e24]; exact CH25.trans (CHv.at (show Stand p l e ({ frames := 1, cells := 4, slots := 8, locals := 12 } : Room) (s.setVm T18.vm) m _ below meth c _ _ _ _ from X24) hZ18 hEL CH25.1)
  refine ⟨_, _, pre14 _ ?_, hrun, hended, _, _, rfl, ?_, qC, ⟨_, rfl⟩, qE.1, qE.2.1, qE.2.2⟩
  · refine st18 _ ?_
    refine st21 _ ?_
    refine st24 _ ?_
    show Steps _ _ _ (T24.setTop (mkF m 26 #[rv u0, rv u1, iv (0 : Int32), iv (0 : Int32), .val .null, .unset] [])) _
    exact X24.returnOut hx Bd.returns (hb hby d2_26) hr
  · show Q_rmI4_0 Z u0 u1 h0 n0 _ T24.heap _
    rw [e24]
    exact ⟨b4, kc4, rfl, N26, K27, f28, f29, f24_, f30, f31⟩

theorem ef_rmI1_0 (m : MethodId) (x0 : Addr) (x1 : Addr) : entryFrame m #[(.ref x0), (.ref x1)] 2 = mkF m 0 #[rv x0, rv x1] [] := by first | (simp [entryFrame, mkF, argsToLocals, Value.category]; done) | rfl
def Q_rmI1_0 (Z : State) (u0 : Addr) (u1 : Addr) (kA : ClassId) (h0 : Heap) (n0 : Nat) (v : Option Value) (h : Heap) (L : List Loc) : Prop := ∃ (t : Jvm.Addr), ∃ (kt : ClassId), (v = none ∧ Fr n0 L ∧ Keep h0 h [u0] ∧ Exa Z h u0 "java/lang/String" ∧ Fld Z h u0 "java/lang/String" "value" "[B" (.ref t) ∧ Fld Z h u0 "java/lang/String" "coder" "B" (.int (0 : Int32)) ∧ Exa Z h t "[B" ∧ Arv Z h t kt .byte (0 : Int32) [] (.int (0 : Int32)))
set_option maxRecDepth 65536 in
set_option maxHeartbeats 40000000 in
theorem rmI1_0 (l : Launch) (Z : State) (a0 : Array Value) (hw : ∀ d ∈ tables_1, d.before a0 Z = true) (ws : List Jvm.Cond) (u0 : Addr) (u1 : Addr) (kA : ClassId) (h0 : Heap) (n0 : Nat) (Z0 : n0 ≤ h0.size) (P_E_u0 : Exa Z h0 u0 "java/lang/String") (P_F_u0_String_value : Fld Z h0 u0 "java/lang/String" "value" "[B" .null) (P_F_u0_String_coder : Fld Z h0 u0 "java/lang/String" "coder" "B" (.int (0 : Int32))) (P_V_u1 : Arv Z h0 u1 kA .char (0 : Int32) [] (.int (0 : Int32))) (g_u0 : n0 ≤ u0) :
    MetFree l own_y34 (head1 (Jvm.Cond.code own_y34 jdk_42_method_3_code 2 none :: ws) ({ frames := 2, cells := 4, slots := 8, locals := 29 } : Room)) (fun a U => a = #[(.ref u0), (.ref u1)] ∧ Z.Warmed39 U.vm ∧ U.heap = h0 ∧ CHv Z own_EL U.vm h0) (fun _ _ _ _ _ => True) (fun _ U o U' => ∃ v L, o = .returned v ∧ Q_rmI1_0 Z u0 u1 kA h0 n0 v U'.heap L ∧ CHr Z own_EL U.vm U.heap U'.vm U'.heap ∧ ReturnedEndW U o U' L ({ frames := 2, cells := 4, slots := 8, locals := 29 } : Room).cells ({ frames := 2, cells := 4, slots := 8, locals := 29 } : Room).slots) := by
  refine MetFree.of_bodySF (plainFor_of_name pn_1) hisR ?_
  intro p e s m args below meth c s₁ Bd hml0 hP hK
  obtain ⟨rfl, hZ, hh, hCH⟩ := hP
  have hx := Bd.exec
  have hby := Bd.bytes
  have hml : c.maxLocals = 2 := hml0
  have hown : s.vm.findClass "java/lang/String" = some m.cls := findClass_of_methodNamed Bd.named
  have hnm := (name_of_methodNamed Bd.named Bd.method).1
  have X0 : Stand p l e ({ frames := 2, cells := 4, slots := 8, locals := 29 } : Room) s m #[(.ref u0), (.ref u1)] below meth c s₁ [] 0 0 := Stand.of_body Bd
  have e0 : s₁.heap = h0 := by rw [← hh, Bd.state]; rfl
  have N0 := Fr.nil n0
  have pre0 : ∀ t, Steps p.tables e below (s₁.setTop (mkF m 0 #[rv u0, rv u1] [])) t → Steps p.tables e below (s₁.setTop (entryFrame m #[(.ref u0), (.ref u1)] 2)) t := fun t k => castTop (ef_rmI1_0 m u0 u1) k
  have hEL : EW Z a0 own_EL := own_hEL hw
  have wS : ∀ a ∈ Bundle.stringAtoms, a.before a0 Z = true := fun d hd => hw d ((by decide +kernel : ∀ d ∈ Bundle.stringAtoms, d ∈ tables_1) d hd)
  have CH0 : CHr Z own_EL s.vm h0 s.vm h0 := CHr.refl hCH
  have hS0 : s.Since s.vm h0.size := (State.WarmedH.refl s).since _
  obtain ⟨cl1, Ar1, qq1, S1, N1_, H1, G1⟩ := id P_V_u1
  have pre2 : ∀ t, Steps p.tables e below (s₁.setTop (mkF m 6 #[rv u0, rv u1] [.null, (.int (0 : Int32)), (.int (0 : Int32)), (.ref u1), (.ref u0)])) t → Steps p.tables e below (s₁.setTop (entryFrame m #[(.ref u0), (.ref u1)] 2)) t := fun t kt => pre0 t (by
   refine XS.aloadN X0.here hx rfl (hb hby d1_0) rfl rfl ?_
   refine XS.aloadN X0.here hx rfl (hb hby d1_1) rfl rfl ?_
   refine XS.iconst X0.here hx rfl (hb hby d1_2) ?_
   refine XS.aloadN X0.here hx rfl (hb hby d1_3) rfl rfl ?_
   refine X0.arraylength hx (by rw [e0]; exact Ar1.1) (State.isArrayOf_alike hZ.alike Ar1.2.1) (g := (mkF m 4 #[rv u0, rv u1] [(.ref u1), (.int (0 : Int32)), (.ref u1), (.ref u0)])) rfl rfl (hb hby d1_4) _ ?_
   rw [len_of S1 N1_]
   refine XS.aconstNull X0.here hx rfl (hb hby d1_5) ?_
   exact kt)
  obtain ⟨_, _, ⟨T3, L3, k3, n3⟩, -, Xw3, hSw3, gr3, ⟨Lc3, hQ3, l3, y3, z3, CHq3⟩, st3⟩ := X0.specialBackS hx (y := own_y33) rfl hown (mvT hZ (own_g hw 19 rfl)) (mvT hZ (own_g hw 20 rfl)) (mvT hZ (own_g hw 22 rfl)) (by decide) (backOfSH (W := 0) (rmI4_0 l Z a0 hw [] u0 u1 h0 n0 Z0 P_E_u0 P_F_u0_String_value P_F_u0_String_coder g_u0) hZ (own_g hw 22 rfl) (own_g hw 14 rfl) (by decide) (by decide) hEL CH0.1) (g := (mkF m 6 #[rv u0, rv u1] [.null, (.int (0 : Int32)), (.int (0 : Int32)), (.ref u1), (.ref u0)])) rfl (by rw [hml]; rfl) (Steps.refl _) (a := u0) (argsL := [(.ref u1), (.int (0 : Int32)), (.int (0 : Int32)), .null]) (rest := []) (lenOf pd___CIILjava_lang_Void__V rfl) rfl (by show 2 * 0 + _ ≤ _; exact Nat.le_of_eq rfl) (hb hby d1_6) (fun _ _ => ⟨rfl, e0, (by decide : 0 + 4 ≤ _), (by decide : 0 + 8 ≤ _)⟩)
  dsimp only [Pt.U, Pt.locs, Pt.cells, Pt.slots] at Xw3 hSw3 gr3 l3 y3 z3 st3 hQ3 CHq3
  subst l3 y3 z3
  obtain ⟨X3, hS3, hZ3, hown3⟩ := rebS hS0 (by rw [e0]; exact (Nat.le_refl h0.size)) Xw3 hSw3 gr3 hZ hown
  obtain ⟨t_3, kt_3, rfl, N3q, K3, f4, f5, f6, f7, f8⟩ := hQ3
  have KK3 : Keep h0 T3.heap [u0] := Keep.trans (Keep.refl h0 [u0]) K3 (allS (Or.inl (List.mem_of_getElem? (i := 0) rfl)) all0)
  have CH9 : CHr Z own_EL s.vm h0 T3.vm T3.heap := CH0.trans CHq3
  have N3 := Fr.app N0 N3q
  obtain ⟨fs, hr, hrun, hended, hW, hsame⟩ := X3.leave (v := none) (fun _ => rfl)
  have qE := hS3.ended (c := ({ frames := 2, cells := 4, slots := 8, locals := 29 } : Room).cells) (k := ({ frames := 2, cells := 4, slots := 8, locals := 29 } : Room).slots) hW (show _ ≤ T3.heap.size from (Nat.le_refl _)) (hsame.mono (by decide) (by decide))
  have qC : CHr Z own_EL s.vm s.heap T3.vm T3.heap := by rw [hh]; exact CH9.trans (CHv.at (show Stand p l e ({ frames := 2, cells := 4, slots := 8, locals := 29 } : Room) (s.setVm T3.vm) m _ below meth c _ _ _ _ from X3) hZ3 hEL CH9.1)
  refine ⟨_, _, pre2 _ ?_, hrun, hended, _, _, rfl, ?_, qC, ⟨_, rfl⟩, qE.1, qE.2.1, qE.2.2⟩
  · show Steps _ _ _ (s₁.setTop (mkF m 6 #[rv u0, rv u1] [.null, (.int (0 : Int32)), (.int (0 : Int32)), (.ref u1), (.ref u0)])) _
    refine st3.trans ?_
    show Steps _ _ _ (T3.setTop (mkF m 9 #[rv u0, rv u1] [])) _
    exact X3.returnOut hx Bd.returns (hb hby d1_9) hr
  · show Q_rmI1_0 Z u0 u1 kA h0 n0 _ T3.heap _
    exact ⟨t_3, kt_3, rfl, N3, KK3, f4, f5, f6, f7, f8⟩

theorem ef_rmT0 (m : MethodId) (x0 : Addr) (x1 : Addr) : entryFrame m #[(.ref x0), (.ref x1)] 3 = mkF m 0 #[rv x0, rv x1, .unset] [] := by first | (simp [entryFrame, mkF, argsToLocals, Value.category]; done) | rfl
set_option maxRecDepth 65536 in
set_option maxHeartbeats 40000000 in
theorem rmT0 (l : Launch) (Z : State) (a0 : Array Value) (hw : ∀ d ∈ tables_1, d.before a0 Z = true) (ws : List Jvm.Cond) (u0 : Addr) (u1 : Addr) (h0 : Heap) (n0 : Nat) (Z0 : n0 ≤ h0.size) (P_E_u0 : Exa Z h0 u0 "com/example/librowmap/librowmap/sql/Dialect") (P_F_u0_Dialect_textType : Fld Z h0 u0 "com/example/librowmap/librowmap/sql/Dialect" "textType" "Ljava/lang/String;" .null) :
    own_MF l own_y35 (Jvm.Cond.code own_y35 prog_92_method_16_code 3 (some (.object "java/lang/String"))) ws ({ frames := 0, cells := 0, slots := 0, locals := 0 } : Room) #[(.ref u0), (.ref u1)] Z h0 (own_QP (some (.ref u1)) h0 n0) := by
  refine MetFree.of_bodySF (plainFor_of_name pn_7) hisR ?_
  intro p e s m args below meth c s₁ Bd hml0 hP hK
  obtain ⟨rfl, hZ, hh⟩ := hP
  have hx := Bd.exec
  have hby := Bd.bytes
  have hml : c.maxLocals = 3 := hml0
  have hown : s.vm.findClass "com/example/librowmap/librowmap/sql/Dialect" = some m.cls := findClass_of_methodNamed Bd.named
  have hnm := (name_of_methodNamed Bd.named Bd.method).1
  have X0 : Stand p l e ({ frames := 0, cells := 0, slots := 0, locals := 0 } : Room) s m #[(.ref u0), (.ref u1)] below meth c s₁ [] 0 0 := Stand.of_body Bd
  have e0 : s₁.heap = h0 := by rw [← hh, Bd.state]; rfl
  have N0 := Fr.nil n0
  have pre0 : ∀ t, Steps p.tables e below (s₁.setTop (mkF m 0 #[rv u0, rv u1, .unset] [])) t → Steps p.tables e below (s₁.setTop (entryFrame m #[(.ref u0), (.ref u1)] 3)) t := fun t k => castTop (ef_rmT0 m u0 u1) k
  obtain ⟨T1, X1, e1, st1⟩ := getF X0 hx hZ hown (host := "") (Or.inl (own_g hw 47 rfl)) Via.refl e0 P_F_u0_Dialect_textType (g := (mkF m 3 #[rv u0, rv u1, rv u1] [(.ref u0)])) rfl rfl (hb hby d7_3)
  obtain ⟨fs, hr, hrun, hended, hW, hsame⟩ := X1.leave (v := some (.ref u1)) (fun h => by rw [Bd.returns] at h; cases h)
  refine ⟨_, _, pre0 _ ?_, hrun, hended, _, _, rfl, ?_, ⟨_, rfl⟩, hW, hsame.mono (by decide) (by decide)⟩
  · refine XS.aloadN X0.here hx rfl (hb hby d7_0) rfl rfl ?_
    refine XS.astoreN X0.here hx rfl (hb hby d7_1) rfl rfl (l' := #[rv u0, rv u1, rv u1]) rfl ?_
    refine XS.aloadN X0.here hx rfl (hb hby d7_2) rfl rfl ?_
    refine st1 _ ?_
    refine XS.ifnullYes X1.here hx rfl (pc0 := 6) (pc' := 46) rfl (hb hby d7_6) rfl (by decide) (by decide) ?_
    refine XS.aloadN X1.here hx rfl (hb hby d7_46) rfl rfl ?_
    show Steps _ _ _ (T1.setTop (mkF m 47 #[rv u0, rv u1, rv u1] [(.ref u1)])) _
    exact retOut X1 hx Bd.returns rfl (Or.inr (Or.inr (Or.inr (Or.inr ⟨rfl, rfl, rfl⟩)))) (hb hby d7_47) hr
  · show own_QP (some (.ref u1)) h0 n0 _ T1.heap _
    rw [e1]
    exact ⟨rfl, N0, rfl⟩

theorem ef_rmT1 (m : MethodId) (x0 : Addr) (x1 : Addr) : entryFrame m #[(.ref x0), (.ref x1)] 3 = mkF m 0 #[rv x0, rv x1, .unset] [] := by first | (simp [entryFrame, mkF, argsToLocals, Value.category]; done) | rfl
def Q_rmT1 (Z : State) (u0 : Addr) (u1 : Addr) (ty : Addr) (tw : Addr) (kw : ClassId) (zt : Int32) (vw : List Value) (tc : Addr) (kc : ClassId) (zc : Int32) (vc : List Value) (xc : List Int32) (xt : List Int32) (zC : Int32) (h0 : Heap) (n0 : Nat) (v : Option Value) (h : Heap) (L : List Loc) : Prop := ∃ (sg : Addr), ∃ (yv : Addr), ∃ (ky : ClassId), ∃ (zl : Int32), ∃ (ys : List Value), (v = (some (.ref sg)) ∧ Fr n0 L ∧ Keep h0 h [] ∧ h0.size ≤ sg ∧ h0.size ≤ yv ∧ sg ≠ yv ∧ Exa Z h sg "java/lang/String" ∧ Fld Z h sg "java/lang/String" "value" "[B" (.ref yv) ∧ Fld Z h sg "java/lang/String" "coder" "B" (.int (0 : Int32)) ∧ Arv Z h yv ky .byte zl ys (.int 0) ∧ (own_has ys ((((([67, 65, 83, 84, 40] : List Int32) ++ xc) ++ ([32, 65, 83, 32] : List Int32)) ++ xt) ++ ([41] : List Int32))) ∧ (own_len ((((([67, 65, 83, 84, 40] : List Int32) ++ xc) ++ ([32, 65, 83, 32] : List Int32)) ++ xt) ++ ([41] : List Int32)) zl))
set_option maxRecDepth 65536 in
set_option maxHeartbeats 40000000 in
theorem rmT1 (l : Launch) (Z : State) (a0 : Array Value) (hw : ∀ d ∈ tables_1, d.before a0 Z = true) (ws : List Jvm.Cond) (u0 : Addr) (u1 : Addr) (ty : Addr) (tw : Addr) (kw : ClassId) (zt : Int32) (vw : List Value) (tc : Addr) (kc : ClassId) (zc : Int32) (vc : List Value) (xc : List Int32) (xt : List Int32) (zC : Int32) (h0 : Heap) (n0 : Nat) (Z0 : n0 ≤ h0.size) (P_E_u0 : Exa Z h0 u0 "com/example/librowmap/librowmap/sql/Dialect") (P_F_u0_Dialect_textType : Fld Z h0 u0 "com/example/librowmap/librowmap/sql/Dialect" "textType" "Ljava/lang/String;" (.ref ty)) (P_E_ty : Exa Z h0 ty "java/lang/String") (P_F_ty_String_value : Fld Z h0 ty "java/lang/String" "value" "[B" (.ref tw)) (P_F_ty_String_coder : Fld Z h0 ty "java/lang/String" "coder" "B" (.int (0 : Int32))) (P_G_tw : Arv Z h0 tw kw .byte zt vw (.int 0)) (P_E_u1 : Exa Z h0 u1 "java/lang/String") (P_F_u1_String_value : Fld Z h0 u1 "java/lang/String" "value" "[B" (.ref tc)) (P_F_u1_String_coder : Fld Z h0 u1 "java/lang/String" "coder" "B" (.int (0 : Int32))) (P_G_tc : Arv Z h0 tc kc .byte zc vc (.int 0)) (P_S_String_COMPACT_STRINGS : Sta Z h0 "java/lang/String" "COMPACT_STRINGS" "Z" (.int zC)) (hz : ¬ (zC = (0 : Int32))) (whc : own_has vc xc) (wnc : own_len xc zc) (wht : own_has vw xt) (wnt : own_len xt zt) (wkc : xc.length ≤ 3) (wkt : xt.length ≤ 7) :
    MetFree l own_y35 (head1 (Jvm.Cond.code own_y35 prog_92_method_16_code 3 (some (.object "java/lang/String")) :: ws) ({ frames := 6, cells := 15, slots := 280, locals := 91 } : Room)) (fun a U => a = #[(.ref u0), (.ref u1)] ∧ Z.Warmed39 U.vm ∧ U.heap = h0 ∧ CHv Z own_EL U.vm h0) (fun _ _ _ _ _ => True) (fun _ U o U' => ∃ v L, o = .returned v ∧ Q_rmT1 Z u0 u1 ty tw kw zt vw tc kc zc vc xc xt zC h0 n0 v U'.heap L ∧ CHr Z own_EL U.vm U.heap U'.vm U'.heap ∧ ReturnedEndW U o U' L ({ frames := 6, cells := 15, slots := 280, locals := 91 } : Room).cells ({ frames := 6, cells := 15, slots := 280, locals := 91 } : Room).slots) := by
  refine MetFree.of_bodySF (plainFor_of_name pn_7) hisR ?_
  intro p e s m args below meth c s₁ Bd hml0 hP hK
  obtain ⟨rfl, hZ, hh, hCH⟩ := hP
  have hx := Bd.exec
  have hby := Bd.bytes
  have hml : c.maxLocals = 3 := hml0
  have hown : s.vm.findClass "com/example/librowmap/librowmap/sql/Dialect" = some m.cls := findClass_of_methodNamed Bd.named
  have hnm := (name_of_methodNamed Bd.named Bd.method).1
  have X0 : Stand p l e ({ frames := 6, cells := 15, slots := 280, locals := 91 } : Room) s m #[(.ref u0), (.ref u1)] below meth c s₁ [] 0 0 := Stand.of_body Bd
  have e0 : s₁.heap = h0 := by rw [← hh, Bd.state]; rfl
  have N0 := Fr.nil n0
  have pre0 : ∀ t, Steps p.tables e below (s₁.setTop (mkF m 0 #[rv u0, rv u1, .unset] [])) t → Steps p.tables e below (s₁.setTop (entryFrame m #[(.ref u0), (.ref u1)] 3)) t := fun t k => castTop (ef_rmT1 m u0 u1) k
  have hEL : EW Z a0 own_EL := own_hEL hw
  have wS : ∀ a ∈ Bundle.stringAtoms, a.before a0 Z = true := fun d hd => hw d ((by decide +kernel : ∀ d ∈ Bundle.stringAtoms, d ∈ tables_1) d hd)
  have CH0 : CHr Z own_EL s.vm h0 s.vm h0 := CHr.refl hCH
  have hS0 : s.Since s.vm h0.size := (State.WarmedH.refl s).since _
  obtain ⟨T1, X1, e1, st1⟩ := getF X0 hx hZ hown (host := "") (Or.inl (own_g hw 47 rfl)) Via.refl e0 P_F_u0_Dialect_textType (g := (mkF m 3 #[rv u0, rv u1, rv u1] [(.ref u0)])) rfl rfl (hb hby d7_3)
  obtain ⟨T2, h2, X2, e2, E2, A2, D2, U2, st2⟩ := newO X1 hx hZ hown (own_g hw 49 rfl) (own_g hw 50 rfl) (own_g hw 51 rfl) e1 (g := (mkF m 9 #[rv u0, rv u1, rv u1] [])) rfl (hb hby d7_9) (by decide) (by decide)
  obtain ⟨b2, g2⟩ : ∃ z, z = h0.size := ⟨_, rfl⟩
  rw [← g2] at A2 D2 U2 st2
  have ne3 : u0 ≠ b2 := Nat.ne_of_lt (Nat.lt_of_lt_of_le P_E_u0.lt (Nat.le_of_eq g2.symm))
  have ne4 : ty ≠ b2 := Nat.ne_of_lt (Nat.lt_of_lt_of_le P_E_ty.lt (Nat.le_of_eq g2.symm))
  have ne5 : tw ≠ b2 := Nat.ne_of_lt (Nat.lt_of_lt_of_le P_G_tw.lt (Nat.le_of_eq g2.symm))
  have ne6 : u1 ≠ b2 := Nat.ne_of_lt (Nat.lt_of_lt_of_le P_E_u1.lt (Nat.le_of_eq g2.symm))
  have ne7 : tc ≠ b2 := Nat.ne_of_lt (Nat.lt_of_lt_of_le P_G_tc.lt (Nat.le_of_eq g2.symm))
  have o2 : n0 ≤ b2 := Nat.le_trans Z0 (Nat.le_of_eq g2.symm)
  have z2 : h0.size ≤ b2 := Nat.le_trans (Keep.refl h0 []).1 (Nat.le_of_eq g2.symm)
  have CH8 : CHr Z own_EL s.vm h0 s.vm h2 := CH0.trans (CHr.ext E2 CH0.1)
  have Yb9 : Safe Z own_EL s.vm h2 b2 := Safe.ext E2 CH0.1 (Safe.new (Nat.le_of_eq g2.symm))
  have K2 : Keep h0 h2 [] := (Keep.refl h0 []).ext E2
  have f10 : Fld Z h2 b2 "java/lang/AbstractStringBuilder" "value" "[B" .null := D2 (Or.inl (own_g hw 64 rfl)) (ty := (.array .byte)) (by decide)
  have f11 : Fld Z h2 b2 "java/lang/AbstractStringBuilder" "coder" "B" (.int (0 : Int32)) := D2 (Or.inl (own_g hw 66 rfl)) (ty := .byte) (by decide)
  have f12 : Fld Z h2 b2 "java/lang/AbstractStringBuilder" "count" "I" (.int (0 : Int32)) := D2 (Or.inl (own_g hw 91 rfl)) (ty := .int) (by decide)
  have pre13 : ∀ t, Steps p.tables e below (T2.setTop (mkF m 13 #[rv u0, rv u1, rv u1] [(.ref b2), (.ref b2)])) t → Steps p.tables e below (s₁.setTop (entryFrame m #[(.ref u0), (.ref u1)] 3)) t := fun t kt => pre0 t (by
   refine XS.aloadN X0.here hx rfl (hb hby d7_0) rfl rfl ?_
   refine XS.astoreN X0.here hx rfl (hb hby d7_1) rfl rfl (l' := #[rv u0, rv u1, rv u1]) rfl ?_
   refine XS.aloadN X0.here hx rfl (hb hby d7_2) rfl rfl ?_
   refine st1 _ ?_
   refine XS.ifnullNo X1.here hx rfl (hb hby d7_6) rfl ?_
   refine st2 _ ?_
   refine XS.dup X2.here hx rfl (hb hby d7_12) rfl rfl ?_
   exact kt)
  have f14 := (P_S_String_COMPACT_STRINGS.ext E2)
  have f15 := (Nat.le_trans Z0 E2.1)
  obtain ⟨_, _, ⟨T16, L16, k16, n16⟩, -, X16, ⟨Lc16, hQ16, l16, y16, z16⟩, st16⟩ := X2.specialBack hx (y := own_y13) rfl hown (mvT hZ (own_g hw 52 rfl)) (mvT hZ (own_g hw 53 rfl)) (mvT hZ (own_g hw 54 rfl)) (by decide) (backOf (W := 1) (rmBI l Z a0 hw [] b2 zC h2 n0 f15 A2 f10 f11 f12 f14 hz o2) hZ (own_g hw 54 rfl) (own_g hw 51 rfl) (by decide) (by decide)) (g := (mkF m 13 #[rv u0, rv u1, rv u1] [(.ref b2), (.ref b2)])) rfl (by rw [hml]; rfl) (Steps.refl _) (a := b2) (argsL := []) (rest := [(.ref b2)]) (lenOf pd___V rfl) rfl (by show 2 * 0 + _ ≤ _; exact Nat.le_of_eq rfl) (hb hby d7_13) (fun _ _ => ⟨rfl, e2, (by decide : 1 + 1 ≤ _), (by decide : 4 + 16 ≤ _)⟩)
  dsimp only [Pt.U, Pt.locs, Pt.cells, Pt.slots] at X16 l16 y16 z16 st16 hQ16
  subst l16 y16 z16
  have f17 := (P_E_u0.ext E2)
  have f18 := (P_E_ty.ext E2)
  have f19 := (P_G_tw.ext E2)
  have f20 := (P_E_u1.ext E2)
  have f21 := (P_G_tc.ext E2)
  obtain ⟨bv_16, kb_16, bs_16, rfl, N16q, K16, sx16_0, f22, f23, f24, f25, f26, f27, f28⟩ := hQ16
  have obv_16 : n0 ≤ bv_16 := Nat.le_trans f15 sx16_0
  have zbv_16 : h0.size ≤ bv_16 := Nat.le_trans K2.1 sx16_0
  have ne29 : u0 ≠ bv_16 := Nat.ne_of_lt (Nat.lt_of_lt_of_le f17.lt sx16_0)
  have ne30 : ty ≠ bv_16 := Nat.ne_of_lt (Nat.lt_of_lt_of_le f18.lt sx16_0)
  have ne31 : tw ≠ bv_16 := Nat.ne_of_lt (Nat.lt_of_lt_of_le f19.lt sx16_0)
  have ne32 : u1 ≠ bv_16 := Nat.ne_of_lt (Nat.lt_of_lt_of_le f20.lt sx16_0)
  have ne33 : tc ≠ bv_16 := Nat.ne_of_lt (Nat.lt_of_lt_of_le f21.lt sx16_0)
  have ne34 : b2 ≠ bv_16 := Nat.ne_of_lt (Nat.lt_of_lt_of_le A2.lt sx16_0)
  have Yn35 : Safe Z own_EL s.vm h2 bv_16 := Safe.new sx16_0
  have KK16 : Keep h0 T16.heap [] := Keep.trans K2 K16 (allS (Or.inr z2) all0)
  have CH36 : CHr Z own_EL s.vm h0 s.vm T16.heap := CH8.trans (CHr.keep K16 (sfS Yb9 sf0) CH8.1)
  have N16 := Fr.app N0 N16q
  have pre37 : ∀ t, Steps p.tables e below (T16.setTop (mkF m 16 #[rv u0, rv u1, rv u1] [(.ref b2)])) t → Steps p.tables e below (s₁.setTop (entryFrame m #[(.ref u0), (.ref u1)] 3)) t := fun t kt => pre13 t (by
   show Steps _ _ _ (T2.setTop (mkF m 13 #[rv u0, rv u1, rv u1] [(.ref b2), (.ref b2)])) _
   refine st16.trans ?_
   exact kt)
  have f38 := (Nat.le_trans (Nat.le_trans (Nat.le_refl h0.size) E2.1) K16.1)
  have f39 : Safe Z own_EL s.vm T16.heap b2 := (Safe.keep K16 (sfS Yb9 sf0) CH8.1 Yb9)
  have f40 : Safe Z own_EL s.vm T16.heap bv_16 := (Safe.keep K16 (sfS Yb9 sf0) CH8.1 Yn35)
  obtain ⟨a41, T41, h41, kk41, b41, kc41, X41, e41, E41, hS41, hk41, hZ41, hown41, Ea41, Ca41, Va41, Aa41, la41, lb41, CHq41, Lt41, nx41, st41⟩ := ldcCH (vs := [(.int (67 : Int32)), (.int (65 : Int32)), (.int (83 : Int32)), (.int (84 : Int32)), (.int (40 : Int32))]) (z := (5 : Int32)) (show Stand p l e ({ frames := 6, cells := 15, slots := 280, locals := 91 } : Room) (s.setVm s.vm) m _ below meth c _ _ _ _ from X16) hx hZ hown (own_g hw 67 rfl) wS rfl hS0 f38 hEL (List.mem_of_getElem? (i := 0) rfl) CH36.1 ⟨by decide, rfl⟩ (by decide) rfl (g := (mkF m 16 #[rv u0, rv u1, rv u1] [(.ref b2)])) rfl (hb hby d7_16) (n := 20) (by decide) (by decide) (by decide) (by decide)
  have K41 : Keep h0 h41 [] := KK16.ext E41
  have CH42 : CHr Z own_EL s.vm h0 T41.vm h41 := CH36.trans CHq41
  have Yr43 : Safe Z own_EL T41.vm h41 b2 := CHr.safe CHq41 f22.lt f39
  have Yr44 : Safe Z own_EL T41.vm h41 bv_16 := CHr.safe CHq41 f26.lt f40
  have Qb41 : Exa Z h41 b41 "[B" := own_litB hZ41.alike Aa41 (Classical.byContradiction fun S_ => (nx41 b41 S_).2 rfl)
  have pre45 : ∀ t, Steps p.tables e below (T41.setTop (mkF m 18 #[rv u0, rv u1, rv u1] [(.ref a41), (.ref b2)])) t → Steps p.tables e below (s₁.setTop (entryFrame m #[(.ref u0), (.ref u1)] 3)) t := fun t kt => pre37 t (by
   refine st41 _ ?_
   exact kt)
  have f46 := (f22.ext E41)
  have f47 := (f23.ext E41)
  have f48 := (f24.ext E41)
  have f49 := (f25.ext E41)
  have f50 := (f26.ext E41)
  have f51 := (f27.ext E41)
  have f52 := ((own_staKeep f14 K16 (nsS A2.nostat ns0)).ext E41)
  have f53 := (Nat.le_trans (Nat.le_trans f15 K16.1) E41.1)
  obtain ⟨cq55, kq55, q55a, q55b, q55c⟩ := isOf hZ41 e41 f46
  obtain ⟨_, _, ⟨T54, L54, k54, n54⟩, -, X54, ⟨Lc54, hQ54, l54, y54, z54⟩, st54⟩ := X41.virtualBack hx (y := own_y26) (z := own_y26) hown41 (mvT hZ41 (own_g hw 70 rfl)) (mvT hZ41 (own_g hw 71 rfl)) (notFace_of_selects (args := #[]) (mvT hZ41 (own_g hw 73 rfl))) (mvT hZ41 (own_g hw 73 rfl)) (mvT hZ41 (own_g hw 72 rfl)) (by decide) (backOf (W := 0) (rmBp l Z a0 hw [] b2 a41 b41 kc41 (5 : Int32) [(.int (67 : Int32)), (.int (65 : Int32)), (.int (83 : Int32)), (.int (84 : Int32)), (.int (40 : Int32))] bv_16 kb_16 (16 : Int32) bs_16 (0 : Int32) ([] : List Int32) ([67, 65, 83, 84, 40] : List Int32) zC h41 n0 f53 f46 f47 f48 f49 f50 f51 Ea41 Va41 Ca41 Aa41 (Ne.symm (nx41 b2 Yr43).2) (Ne.symm (nx41 bv_16 Yr44).2) (Ne.symm (nx41 b2 Yr43).1) (Ne.symm (nx41 bv_16 Yr44).1) (Ne.symm ne34) f52 hz own_in0 own_len0 (by unfold own_len; rfl) (by simp only [List.length_append, List.length_cons, List.length_nil]; omega) f28 (own_has0 _) (own_hasL rfl) o2 obv_16) hZ41 (own_g hw 74 rfl) (own_g hw 51 rfl) (by decide) (by decide)) q55a q55c (g := (mkF m 18 #[rv u0, rv u1, rv u1] [(.ref a41), (.ref b2)])) rfl (by rw [hml]; rfl) (Steps.refl _) (argsL := [(.ref a41)]) (rest := []) (lenOf pd__Ljava_lang_String__Ljava_lang_StringBuilder_ rfl) rfl (by show 2 * 0 + _ ≤ _; exact Nat.le_of_eq rfl) (hb hby d7_18) (fun _ _ => ⟨rfl, e41, (by decide : 4 + 1 ≤ _), (by decide : 44 + 34 ≤ _)⟩)
  dsimp only [Pt.U, Pt.locs, Pt.cells, Pt.slots] at X54 l54 y54 z54 st54 hQ54
  subst l54 y54 z54
  have f56 := ((f17.keep K16).ext E41)
  have f57 := ((f18.keep K16).ext E41)
  have f58 := ((f19.keep K16 (ninS ne5 nin0)).ext E41)
  have f59 := ((f20.keep K16).ext E41)
  have f60 := ((f21.keep K16 (ninS ne7 nin0)).ext E41)
  obtain ⟨t2_54, k2_54, cap2_54, b2_54, cn2_54, rfl, N54q, K54, f61, f62, f63, f64, f65, f66, f67, f68, f69⟩ := hQ54
  have KK54 : Keep h0 T54.heap [] := Keep.trans K41 K54 (allS (Or.inr z2) (allS (Or.inr zbv_16) all0))
  have CH70 : CHr Z own_EL s.vm h0 T41.vm T54.heap := CH42.trans (CHr.keep K54 (sfS Yr43 (sfS Yr44 sf0)) CH42.1)
  have N54 := Fr.app N16 N54q
  have oq71 : n0 ≤ t2_54 := own_orc f69 obv_16 (fun e_ => Nat.le_trans f53 e_)
  have zq71 : h0.size ≤ t2_54 := own_orc f69 zbv_16 (fun e_ => Nat.le_trans K41.1 e_)
  have nq72 : u0 ≠ t2_54 := own_orn f69 ne29 (fun e_ => Nat.ne_of_lt (Nat.lt_of_lt_of_le f56.lt e_))
  have nq73 : ty ≠ t2_54 := own_orn f69 ne30 (fun e_ => Nat.ne_of_lt (Nat.lt_of_lt_of_le f57.lt e_))
  have nq74 : tw ≠ t2_54 := own_orn f69 ne31 (fun e_ => Nat.ne_of_lt (Nat.lt_of_lt_of_le f58.lt e_))
  have nq75 : u1 ≠ t2_54 := own_orn f69 ne32 (fun e_ => Nat.ne_of_lt (Nat.lt_of_lt_of_le f59.lt e_))
  have nq76 : tc ≠ t2_54 := own_orn f69 ne33 (fun e_ => Nat.ne_of_lt (Nat.lt_of_lt_of_le f60.lt e_))
  have nq77 : b2 ≠ t2_54 := own_orn f69 ne34 (fun e_ => Nat.ne_of_lt (Nat.lt_of_lt_of_le f46.lt e_))
  have nq78 : a41 ≠ t2_54 := own_orn f69 (Ne.symm (nx41 bv_16 Yr44).1) (fun e_ => Nat.ne_of_lt (Nat.lt_of_lt_of_le Ea41.lt e_))
  have nq79 : b41 ≠ t2_54 := own_orn f69 (Ne.symm (nx41 bv_16 Yr44).2) (fun e_ => Nat.ne_of_lt (Nat.lt_of_lt_of_le Aa41.lt e_))
  have Yq80 : Safe Z own_EL T41.vm h41 t2_54 := own_ors f69 Yr44 (fun e_ => Safe.new e_)
  have pre81 : ∀ t, Steps p.tables e below (T54.setTop (mkF m 22 #[rv u0, rv u1, rv u1] [(.ref u1), (.ref b2)])) t → Steps p.tables e below (s₁.setTop (entryFrame m #[(.ref u0), (.ref u1)] 3)) t := fun t kt => pre45 t (by
   show Steps _ _ _ (T41.setTop (mkF m 18 #[rv u0, rv u1, rv u1] [(.ref a41), (.ref b2)])) _
   refine st54.trans ?_
   refine XS.aloadN X54.here hx rfl (hb hby d7_21) rfl rfl ?_
   exact kt)
  have f82 := (f59.keep K54)
  have f83 := ((((P_F_u1_String_value.ext E2).keep K16 (ninS ne6 nin0)).ext E41).keep K54 (ninS ne6 (ninS ne32 nin0)))
  have f84 := ((((P_F_u1_String_coder.ext E2).keep K16 (ninS ne6 nin0)).ext E41).keep K54 (ninS ne6 (ninS ne32 nin0)))
  have f85 := (f60.keep K54 (ninS ne7 (ninS ne33 nin0)))
  have f86 := (own_staKeep f52 K54 (nsS f46.nostat (nsS f50.nostat ns0)))
  have f87 := (Nat.le_trans f53 K54.1)
  obtain ⟨cq89, kq89, q89a, q89b, q89c⟩ := isOf hZ41 rfl f61
  obtain ⟨_, _, ⟨T88, L88, k88, n88⟩, -, X88, ⟨Lc88, hQ88, l88, y88, z88⟩, st88⟩ := X54.virtualBack hx (y := own_y26) (z := own_y26) hown41 (mvT hZ41 (own_g hw 70 rfl)) (mvT hZ41 (own_g hw 71 rfl)) (notFace_of_selects (args := #[]) (mvT hZ41 (own_g hw 73 rfl))) (mvT hZ41 (own_g hw 73 rfl)) (mvT hZ41 (own_g hw 72 rfl)) (by decide) (backOf (W := 0) (rmBp l Z a0 hw [] b2 u1 tc kc zc vc t2_54 k2_54 cap2_54 b2_54 cn2_54 (([] : List Int32) ++ ([67, 65, 83, 84, 40] : List Int32)) xc zC T54.heap n0 f87 f61 f62 f63 f64 f65 f66 f82 f83 f84 f85 ne7 nq76 ne6 nq75 (Ne.symm nq77) f86 hz f68.2 f68.1 wnc (by simp only [List.length_append, List.length_cons, List.length_nil]; omega) f67.2 f67.1 whc o2 oq71) hZ41 (own_g hw 74 rfl) (own_g hw 51 rfl) (by decide) (by decide)) q89a q89c (g := (mkF m 22 #[rv u0, rv u1, rv u1] [(.ref u1), (.ref b2)])) rfl (by rw [hml]; rfl) (Steps.refl _) (argsL := [(.ref u1)]) (rest := []) (lenOf pd__Ljava_lang_String__Ljava_lang_StringBuilder_ rfl) rfl (by show 2 * 0 + _ ≤ _; exact Nat.le_of_eq rfl) (hb hby d7_22) (fun _ _ => ⟨rfl, rfl, (by decide : 5 + 1 ≤ _), (by decide : 78 + 34 ≤ _)⟩)
  dsimp only [Pt.U, Pt.locs, Pt.cells, Pt.slots] at X88 l88 y88 z88 st88 hQ88
  subst l88 y88 z88
  have f90 := (f56.keep K54)
  have f91 := (f57.keep K54)
  have f92 := (f58.keep K54 (ninS ne5 (ninS ne31 nin0)))
  have f93 := (Ea41.keep K54)
  have f94 := (Aa41.keep K54 (ninS (Ne.symm (nx41 b2 Yr43).2) (ninS (Ne.symm (nx41 bv_16 Yr44).2) nin0)))
  have f95 : Safe Z own_EL T41.vm T54.heap t2_54 := (Safe.keep K54 (sfS Yr43 (sfS Yr44 sf0)) CH42.1 Yq80)
  have f96 : Safe Z own_EL T41.vm T54.heap b2 := (Safe.keep K54 (sfS Yr43 (sfS Yr44 sf0)) CH42.1 Yr43)
  obtain ⟨t2_88, k2_88, cap2_88, b2_88, cn2_88, rfl, N88q, K88, f97, f98, f99, f100, f101, f102, f103, f104, f105⟩ := hQ88
  have KK88 : Keep h0 T88.heap [] := Keep.trans KK54 K88 (allS (Or.inr z2) (allS (Or.inr zq71) all0))
  have CH106 : CHr Z own_EL s.vm h0 T41.vm T88.heap := CH70.trans (CHr.keep K88 (sfS f96 (sfS f95 sf0)) CH70.1)
  have N88 := Fr.app N54 N88q
  have oq107 : n0 ≤ t2_88 := own_orc f105 oq71 (fun e_ => Nat.le_trans f87 e_)
  have zq107 : h0.size ≤ t2_88 := own_orc f105 zq71 (fun e_ => Nat.le_trans KK54.1 e_)
  have nq108 : u0 ≠ t2_88 := own_orn f105 nq72 (fun e_ => Nat.ne_of_lt (Nat.lt_of_lt_of_le f90.lt e_))
  have nq109 : ty ≠ t2_88 := own_orn f105 nq73 (fun e_ => Nat.ne_of_lt (Nat.lt_of_lt_of_le f91.lt e_))
  have nq110 : tw ≠ t2_88 := own_orn f105 nq74 (fun e_ => Nat.ne_of_lt (Nat.lt_of_lt_of_le f92.lt e_))
  have nq111 : u1 ≠ t2_88 := own_orn f105 nq75 (fun e_ => Nat.ne_of_lt (Nat.lt_of_lt_of_le f82.lt e_))
  have nq112 : tc ≠ t2_88 := own_orn f105 nq76 (fun e_ => Nat.ne_of_lt (Nat.lt_of_lt_of_le f85.lt e_))
  have nq113 : b2 ≠ t2_88 := own_orn f105 nq77 (fun e_ => Nat.ne_of_lt (Nat.lt_of_lt_of_le f61.lt e_))
  have nq114 : a41 ≠ t2_88 := own_orn f105 nq78 (fun e_ => Nat.ne_of_lt (Nat.lt_of_lt_of_le f93.lt e_))
  have nq115 : b41 ≠ t2_88 := own_orn f105 nq79 (fun e_ => Nat.ne_of_lt (Nat.lt_of_lt_of_le f94.lt e_))
  have Yq116 : Safe Z own_EL T41.vm T54.heap t2_88 := own_ors f105 f95 (fun e_ => Safe.new e_)
  have pre117 : ∀ t, Steps p.tables e below (T88.setTop (mkF m 25 #[rv u0, rv u1, rv u1] [(.ref b2)])) t → Steps p.tables e below (s₁.setTop (entryFrame m #[(.ref u0), (.ref u1)] 3)) t := fun t kt => pre81 t (by
   show Steps _ _ _ (T54.setTop (mkF m 22 #[rv u0, rv u1, rv u1] [(.ref u1), (.ref b2)])) _
   refine st88.trans ?_
   exact kt)
  have f118 := (Nat.le_trans (Nat.le_trans hk41 K54.1) K88.1)
  have f119 : Safe Z own_EL T41.vm T88.heap b2 := (Safe.keep K88 (sfS f96 (sfS f95 sf0)) CH70.1 f96)
  have f120 : Safe Z own_EL T41.vm T88.heap t2_88 := (Safe.keep K88 (sfS f96 (sfS f95 sf0)) CH70.1 Yq116)
  obtain ⟨a121, T121, h121, kk121, b121, kc121, X121, e121, E121, hS121, hk121, hZ121, hown121, Ea121, Ca121, Va121, Aa121, la121, lb121, CHq121, Lt121, nx121, st121⟩ := ldcCH (vs := [(.int (32 : Int32)), (.int (65 : Int32)), (.int (83 : Int32)), (.int (32 : Int32))]) (z := (4 : Int32)) (show Stand p l e ({ frames := 6, cells := 15, slots := 280, locals := 91 } : Room) (s.setVm T41.vm) m _ below meth c _ _ _ _ from X88) hx hZ41 hown41 (own_g hw 117 rfl) wS rfl hS41 f118 hEL (List.mem_of_getElem? (i := 1) rfl) CH106.1 ⟨by decide, rfl⟩ (by decide) rfl (g := (mkF m 25 #[rv u0, rv u1, rv u1] [(.ref b2)])) rfl (hb hby d7_25) (n := 16) (by decide) (by decide) (by decide) (by decide)
  have K121 : Keep h0 h121 [] := KK88.ext E121
  have CH122 : CHr Z own_EL s.vm h0 T121.vm h121 := CH106.trans CHq121
  have Yr123 : Safe Z own_EL T121.vm h121 b2 := CHr.safe CHq121 f97.lt f119
  have Yr124 : Safe Z own_EL T121.vm h121 t2_88 := CHr.safe CHq121 f101.lt f120
  have Qb121 : Exa Z h121 b121 "[B" := own_litB hZ121.alike Aa121 (Classical.byContradiction fun S_ => (nx121 b121 S_).2 rfl)
  have pre125 : ∀ t, Steps p.tables e below (T121.setTop (mkF m 27 #[rv u0, rv u1, rv u1] [(.ref a121), (.ref b2)])) t → Steps p.tables e below (s₁.setTop (entryFrame m #[(.ref u0), (.ref u1)] 3)) t := fun t kt => pre117 t (by
   refine st121 _ ?_
   exact kt)
  have f126 := (f97.ext E121)
  have f127 := (f98.ext E121)
  have f128 := (f99.ext E121)
  have f129 := (f100.ext E121)
  have f130 := (f101.ext E121)
  have f131 := (f102.ext E121)
  have f132 := ((own_staKeep f86 K88 (nsS f61.nostat (nsS f65.nostat ns0))).ext E121)
  have f133 := (Nat.le_trans (Nat.le_trans f87 K88.1) E121.1)
  obtain ⟨cq135, kq135, q135a, q135b, q135c⟩ := isOf hZ121 e121 f126
  obtain ⟨_, _, ⟨T134, L134, k134, n134⟩, -, X134, ⟨Lc134, hQ134, l134, y134, z134⟩, st134⟩ := X121.virtualBack hx (y := own_y26) (z := own_y26) hown121 (mvT hZ121 (own_g hw 70 rfl)) (mvT hZ121 (own_g hw 71 rfl)) (notFace_of_selects (args := #[]) (mvT hZ121 (own_g hw 73 rfl))) (mvT hZ121 (own_g hw 73 rfl)) (mvT hZ121 (own_g hw 72 rfl)) (by decide) (backOf (W := 0) (rmBp l Z a0 hw [] b2 a121 b121 kc121 (4 : Int32) [(.int (32 : Int32)), (.int (65 : Int32)), (.int (83 : Int32)), (.int (32 : Int32))] t2_88 k2_88 cap2_88 b2_88 cn2_88 ((([] : List Int32) ++ ([67, 65, 83, 84, 40] : List Int32)) ++ xc) ([32, 65, 83, 32] : List Int32) zC h121 n0 f133 f126 f127 f128 f129 f130 f131 Ea121 Va121 Ca121 Aa121 (Ne.symm (nx121 b2 Yr123).2) (Ne.symm (nx121 t2_88 Yr124).2) (Ne.symm (nx121 b2 Yr123).1) (Ne.symm (nx121 t2_88 Yr124).1) (Ne.symm nq113) f132 hz f104.2 f104.1 (by unfold own_len; rfl) (by simp only [List.length_append, List.length_cons, List.length_nil]; omega) f103.2 f103.1 (own_hasL rfl) o2 oq107) hZ121 (own_g hw 74 rfl) (own_g hw 51 rfl) (by decide) (by decide)) q135a q135c (g := (mkF m 27 #[rv u0, rv u1, rv u1] [(.ref a121), (.ref b2)])) rfl (by rw [hml]; rfl) (Steps.refl _) (argsL := [(.ref a121)]) (rest := []) (lenOf pd__Ljava_lang_String__Ljava_lang_StringBuilder_ rfl) rfl (by show 2 * 0 + _ ≤ _; exact Nat.le_of_eq rfl) (hb hby d7_27) (fun _ _ => ⟨rfl, e121, (by decide : 8 + 1 ≤ _), (by decide : 132 + 34 ≤ _)⟩)
  dsimp only [Pt.U, Pt.locs, Pt.cells, Pt.slots] at X134 l134 y134 z134 st134 hQ134
  subst l134 y134 z134
  have f136 := ((f90.keep K88).ext E121)
  have f137 := ((f91.keep K88).ext E121)
  have f138 := ((f92.keep K88 (ninS ne5 (ninS nq74 nin0))).ext E121)
  have f139 := ((f82.keep K88).ext E121)
  have f140 := ((f85.keep K88 (ninS ne7 (ninS nq76 nin0))).ext E121)
  have f141 := ((f93.keep K88).ext E121)
  have f142 := ((f94.keep K88 (ninS (Ne.symm (nx41 b2 Yr43).2) (ninS nq79 nin0))).ext E121)
  obtain ⟨t2_134, k2_134, cap2_134, b2_134, cn2_134, rfl, N134q, K134, f143, f144, f145, f146, f147, f148, f149, f150, f151⟩ := hQ134
  have KK134 : Keep h0 T134.heap [] := Keep.trans K121 K134 (allS (Or.inr z2) (allS (Or.inr zq107) all0))
  have CH152 : CHr Z own_EL s.vm h0 T121.vm T134.heap := CH122.trans (CHr.keep K134 (sfS Yr123 (sfS Yr124 sf0)) CH122.1)
  have N134 := Fr.app N88 N134q
  have oq153 : n0 ≤ t2_134 := own_orc f151 oq107 (fun e_ => Nat.le_trans f133 e_)
  have zq153 : h0.size ≤ t2_134 := own_orc f151 zq107 (fun e_ => Nat.le_trans K121.1 e_)
  have nq154 : u0 ≠ t2_134 := own_orn f151 nq108 (fun e_ => Nat.ne_of_lt (Nat.lt_of_lt_of_le f136.lt e_))
  have nq155 : ty ≠ t2_134 := own_orn f151 nq109 (fun e_ => Nat.ne_of_lt (Nat.lt_of_lt_of_le f137.lt e_))
  have nq156 : tw ≠ t2_134 := own_orn f151 nq110 (fun e_ => Nat.ne_of_lt (Nat.lt_of_lt_of_le f138.lt e_))
  have nq157 : u1 ≠ t2_134 := own_orn f151 nq111 (fun e_ => Nat.ne_of_lt (Nat.lt_of_lt_of_le f139.lt e_))
  have nq158 : tc ≠ t2_134 := own_orn f151 nq112 (fun e_ => Nat.ne_of_lt (Nat.lt_of_lt_of_le f140.lt e_))
  have nq159 : b2 ≠ t2_134 := own_orn f151 nq113 (fun e_ => Nat.ne_of_lt (Nat.lt_of_lt_of_le f126.lt e_))
  have nq160 : a41 ≠ t2_134 := own_orn f151 nq114 (fun e_ => Nat.ne_of_lt (Nat.lt_of_lt_of_le f141.lt e_))
  have nq161 : b41 ≠ t2_134 := own_orn f151 nq115 (fun e_ => Nat.ne_of_lt (Nat.lt_of_lt_of_le f142.lt e_))
  have nq162 : a121 ≠ t2_134 := own_orn f151 (Ne.symm (nx121 t2_88 Yr124).1) (fun e_ => Nat.ne_of_lt (Nat.lt_of_lt_of_le Ea121.lt e_))
  have nq163 : b121 ≠ t2_134 := own_orn f151 (Ne.symm (nx121 t2_88 Yr124).2) (fun e_ => Nat.ne_of_lt (Nat.lt_of_lt_of_le Aa121.lt e_))
  have Yq164 : Safe Z own_EL T121.vm h121 t2_134 := own_ors f151 Yr124 (fun e_ => Safe.new e_)
  have f165 := (((((((P_F_u0_Dialect_textType.ext E2).keep K16 (ninS ne3 nin0)).ext E41).keep K54 (ninS ne3 (ninS ne29 nin0))).keep K88 (ninS ne3 (ninS nq72 nin0))).ext E121).keep K134 (ninS ne3 (ninS nq108 nin0)))
  obtain ⟨T166, X166, e166, st166⟩ := getF X134 hx hZ121 hown121 (host := "") (Or.inl (own_g hw 47 rfl)) Via.refl rfl f165 (g := (mkF m 31 #[rv u0, rv u1, rv u1] [(.ref u0), (.ref b2)])) rfl rfl (hb hby d7_31)
  have pre167 : ∀ t, Steps p.tables e below (T166.setTop (mkF m 34 #[rv u0, rv u1, rv u1] [(.ref ty), (.ref b2)])) t → Steps p.tables e below (s₁.setTop (entryFrame m #[(.ref u0), (.ref u1)] 3)) t := fun t kt => pre125 t (by
   show Steps _ _ _ (T121.setTop (mkF m 27 #[rv u0, rv u1, rv u1] [(.ref a121), (.ref b2)])) _
   refine st134.trans ?_
   refine XS.aloadN X134.here hx rfl (hb hby d7_30) rfl rfl ?_
   refine st166 _ ?_
   exact kt)
  have f168 := (f137.keep K134)
  have f169 := (((((((P_F_ty_String_value.ext E2).keep K16 (ninS ne4 nin0)).ext E41).keep K54 (ninS ne4 (ninS ne30 nin0))).keep K88 (ninS ne4 (ninS nq73 nin0))).ext E121).keep K134 (ninS ne4 (ninS nq109 nin0)))
  have f170 := (((((((P_F_ty_String_coder.ext E2).keep K16 (ninS ne4 nin0)).ext E41).keep K54 (ninS ne4 (ninS ne30 nin0))).keep K88 (ninS ne4 (ninS nq73 nin0))).ext E121).keep K134 (ninS ne4 (ninS nq109 nin0)))
  have f171 := (f138.keep K134 (ninS ne5 (ninS nq110 nin0)))
  have f172 := (own_staKeep f132 K134 (nsS f126.nostat (nsS f130.nostat ns0)))
  have f173 := (Nat.le_trans f133 K134.1)
  obtain ⟨cq175, kq175, q175a, q175b, q175c⟩ := isOf hZ121 e166 f143
  obtain ⟨_, _, ⟨T174, L174, k174, n174⟩, -, X174, ⟨Lc174, hQ174, l174, y174, z174⟩, st174⟩ := X166.virtualBack hx (y := own_y26) (z := own_y26) hown121 (mvT hZ121 (own_g hw 70 rfl)) (mvT hZ121 (own_g hw 71 rfl)) (notFace_of_selects (args := #[]) (mvT hZ121 (own_g hw 73 rfl))) (mvT hZ121 (own_g hw 73 rfl)) (mvT hZ121 (own_g hw 72 rfl)) (by decide) (backOf (W := 0) (rmBp l Z a0 hw [] b2 ty tw kw zt vw t2_134 k2_134 cap2_134 b2_134 cn2_134 (((([] : List Int32) ++ ([67, 65, 83, 84, 40] : List Int32)) ++ xc) ++ ([32, 65, 83, 32] : List Int32)) xt zC T134.heap n0 f173 f143 f144 f145 f146 f147 f148 f168 f169 f170 f171 ne5 nq156 ne4 nq155 (Ne.symm nq159) f172 hz f150.2 f150.1 wnt (by simp only [List.length_append, List.length_cons, List.length_nil]; omega) f149.2 f149.1 wht o2 oq153) hZ121 (own_g hw 74 rfl) (own_g hw 51 rfl) (by decide) (by decide)) q175a q175c (g := (mkF m 34 #[rv u0, rv u1, rv u1] [(.ref ty), (.ref b2)])) rfl (by rw [hml]; rfl) (Steps.refl _) (argsL := [(.ref ty)]) (rest := []) (lenOf pd__Ljava_lang_String__Ljava_lang_StringBuilder_ rfl) rfl (by show 2 * 0 + _ ≤ _; exact Nat.le_of_eq rfl) (hb hby d7_34) (fun _ _ => ⟨rfl, e166, (by decide : 9 + 1 ≤ _), (by decide : 166 + 34 ≤ _)⟩)
  dsimp only [Pt.U, Pt.locs, Pt.cells, Pt.slots] at X174 l174 y174 z174 st174 hQ174
  subst l174 y174 z174
  have f176 := (f136.keep K134)
  have f177 := (f139.keep K134)
  have f178 := (f140.keep K134 (ninS ne7 (ninS nq112 nin0)))
  have f179 := (f141.keep K134)
  have f180 := (f142.keep K134 (ninS (Ne.symm (nx41 b2 Yr43).2) (ninS nq115 nin0)))
  have f181 := (Ea121.keep K134)
  have f182 := (Aa121.keep K134 (ninS (Ne.symm (nx121 b2 Yr123).2) (ninS (Ne.symm (nx121 t2_88 Yr124).2) nin0)))
  have f183 : Safe Z own_EL T121.vm T134.heap t2_134 := (Safe.keep K134 (sfS Yr123 (sfS Yr124 sf0)) CH122.1 Yq164)
  have f184 : Safe Z own_EL T121.vm T134.heap b2 := (Safe.keep K134 (sfS Yr123 (sfS Yr124 sf0)) CH122.1 Yr123)
  obtain ⟨t2_174, k2_174, cap2_174, b2_174, cn2_174, rfl, N174q, K174, f185, f186, f187, f188, f189, f190, f191, f192, f193⟩ := hQ174
  have KK174 : Keep h0 T174.heap [] := Keep.trans KK134 K174 (allS (Or.inr z2) (allS (Or.inr zq153) all0))
  have CH194 : CHr Z own_EL s.vm h0 T121.vm T174.heap := CH152.trans (CHr.keep K174 (sfS f184 (sfS f183 sf0)) CH152.1)
  have N174 := Fr.app N134 N174q
  have oq195 : n0 ≤ t2_174 := own_orc f193 oq153 (fun e_ => Nat.le_trans f173 e_)
  have zq195 : h0.size ≤ t2_174 := own_orc f193 zq153 (fun e_ => Nat.le_trans KK134.1 e_)
  have nq196 : u0 ≠ t2_174 := own_orn f193 nq154 (fun e_ => Nat.ne_of_lt (Nat.lt_of_lt_of_le f176.lt e_))
  have nq197 : ty ≠ t2_174 := own_orn f193 nq155 (fun e_ => Nat.ne_of_lt (Nat.lt_of_lt_of_le f168.lt e_))
  have nq198 : tw ≠ t2_174 := own_orn f193 nq156 (fun e_ => Nat.ne_of_lt (Nat.lt_of_lt_of_le f171.lt e_))
  have nq199 : u1 ≠ t2_174 := own_orn f193 nq157 (fun e_ => Nat.ne_of_lt (Nat.lt_of_lt_of_le f177.lt e_))
  have nq200 : tc ≠ t2_174 := own_orn f193 nq158 (fun e_ => Nat.ne_of_lt (Nat.lt_of_lt_of_le f178.lt e_))
  have nq201 : b2 ≠ t2_174 := own_orn f193 nq159 (fun e_ => Nat.ne_of_lt (Nat.lt_of_lt_of_le f143.lt e_))
  have nq202 : a41 ≠ t2_174 := own_orn f193 nq160 (fun e_ => Nat.ne_of_lt (Nat.lt_of_lt_of_le f179.lt e_))
  have nq203 : b41 ≠ t2_174 := own_orn f193 nq161 (fun e_ => Nat.ne_of_lt (Nat.lt_of_lt_of_le f180.lt e_))
  have nq204 : a121 ≠ t2_174 := own_orn f193 nq162 (fun e_ => Nat.ne_of_lt (Nat.lt_of_lt_of_le f181.lt e_))
  have nq205 : b121 ≠ t2_174 := own_orn f193 nq163 (fun e_ => Nat.ne_of_lt (Nat.lt_of_lt_of_le f182.lt e_))
  have Yq206 : Safe Z own_EL T121.vm T134.heap t2_174 := own_ors f193 f183 (fun e_ => Safe.new e_)
  have pre207 : ∀ t, Steps p.tables e below (T174.setTop (mkF m 37 #[rv u0, rv u1, rv u1] [(.ref b2)])) t → Steps p.tables e below (s₁.setTop (entryFrame m #[(.ref u0), (.ref u1)] 3)) t := fun t kt => pre167 t (by
   show Steps _ _ _ (T166.setTop (mkF m 34 #[rv u0, rv u1, rv u1] [(.ref ty), (.ref b2)])) _
   refine st174.trans ?_
   exact kt)
  have f208 := (Nat.le_trans (Nat.le_trans hk121 K134.1) K174.1)
  have f209 : Safe Z own_EL T121.vm T174.heap b2 := (Safe.keep K174 (sfS f184 (sfS f183 sf0)) CH152.1 f184)
  have f210 : Safe Z own_EL T121.vm T174.heap t2_174 := (Safe.keep K174 (sfS f184 (sfS f183 sf0)) CH152.1 Yq206)
  obtain ⟨a211, T211, h211, kk211, b211, kc211, X211, e211, E211, hS211, hk211, hZ211, hown211, Ea211, Ca211, Va211, Aa211, la211, lb211, CHq211, Lt211, nx211, st211⟩ := ldcCH (vs := [(.int (41 : Int32))]) (z := (1 : Int32)) (show Stand p l e ({ frames := 6, cells := 15, slots := 280, locals := 91 } : Room) (s.setVm T121.vm) m _ below meth c _ _ _ _ from X174) hx hZ121 hown121 (own_g hw 118 rfl) wS rfl hS121 f208 hEL (List.mem_of_getElem? (i := 2) rfl) CH194.1 ⟨by decide, rfl⟩ (by decide) rfl (g := (mkF m 37 #[rv u0, rv u1, rv u1] [(.ref b2)])) rfl (hb hby d7_37) (n := 4) (by decide) (by decide) (by decide) (by decide)
  have K211 : Keep h0 h211 [] := KK174.ext E211
  have CH212 : CHr Z own_EL s.vm h0 T211.vm h211 := CH194.trans CHq211
  have Yr213 : Safe Z own_EL T211.vm h211 b2 := CHr.safe CHq211 f185.lt f209
  have Yr214 : Safe Z own_EL T211.vm h211 t2_174 := CHr.safe CHq211 f189.lt f210
  have Qb211 : Exa Z h211 b211 "[B" := own_litB hZ211.alike Aa211 (Classical.byContradiction fun S_ => (nx211 b211 S_).2 rfl)
  have pre215 : ∀ t, Steps p.tables e below (T211.setTop (mkF m 39 #[rv u0, rv u1, rv u1] [(.ref a211), (.ref b2)])) t → Steps p.tables e below (s₁.setTop (entryFrame m #[(.ref u0), (.ref u1)] 3)) t := fun t kt => pre207 t (by
   refine st211 _ ?_
   exact kt)
  have f216 := (f185.ext E211)
  have f217 := (f186.ext E211)
  have f218 := (f187.ext E211)
  have f219 := (f188.ext E211)
  have f220 := (f189.ext E211)
  have f221 := (f190.ext E211)
  have f222 := ((own_staKeep f172 K174 (nsS f143.nostat (nsS f147.nostat ns0))).ext E211)
  have f223 := (Nat.le_trans (Nat.le_trans f173 K174.1) E211.1)
  obtain ⟨cq225, kq225, q225a, q225b, q225c⟩ := isOf hZ211 e211 f216
  obtain ⟨_, _, ⟨T224, L224, k224, n224⟩, -, X224, ⟨Lc224, hQ224, l224, y224, z224⟩, st224⟩ := X211.virtualBack hx (y := own_y26) (z := own_y26) hown211 (mvT hZ211 (own_g hw 70 rfl)) (mvT hZ211 (own_g hw 71 rfl)) (notFace_of_selects (args := #[]) (mvT hZ211 (own_g hw 73 rfl))) (mvT hZ211 (own_g hw 73 rfl)) (mvT hZ211 (own_g hw 72 rfl)) (by decide) (backOf (W := 0) (rmBp l Z a0 hw [] b2 a211 b211 kc211 (1 : Int32) [(.int (41 : Int32))] t2_174 k2_174 cap2_174 b2_174 cn2_174 ((((([] : List Int32) ++ ([67, 65, 83, 84, 40] : List Int32)) ++ xc) ++ ([32, 65, 83, 32] : List Int32)) ++ xt) ([41] : List Int32) zC h211 n0 f223 f216 f217 f218 f219 f220 f221 Ea211 Va211 Ca211 Aa211 (Ne.symm (nx211 b2 Yr213).2) (Ne.symm (nx211 t2_174 Yr214).2) (Ne.symm (nx211 b2 Yr213).1) (Ne.symm (nx211 t2_174 Yr214).1) (Ne.symm nq201) f222 hz f192.2 f192.1 (by unfold own_len; rfl) (by simp only [List.length_append, List.length_cons, List.length_nil]; omega) f191.2 f191.1 (own_hasL rfl) o2 oq195) hZ211 (own_g hw 74 rfl) (own_g hw 51 rfl) (by decide) (by decide)) q225a q225c (g := (mkF m 39 #[rv u0, rv u1, rv u1] [(.ref a211), (.ref b2)])) rfl (by rw [hml]; rfl) (Steps.refl _) (argsL := [(.ref a211)]) (rest := []) (lenOf pd__Ljava_lang_String__Ljava_lang_StringBuilder_ rfl) rfl (by show 2 * 0 + _ ≤ _; exact Nat.le_of_eq rfl) (hb hby d7_39) (fun _ _ => ⟨rfl, e211, (by decide : 12 + 1 ≤ _), (by decide : 208 + 34 ≤ _)⟩)
  dsimp only [Pt.U, Pt.locs, Pt.cells, Pt.slots] at X224 l224 y224 z224 st224 hQ224
  subst l224 y224 z224
  have f226 := ((f176.keep K174).ext E211)
  have f227 := ((f168.keep K174).ext E211)
  have f228 := ((f171.keep K174 (ninS ne5 (ninS nq156 nin0))).ext E211)
  have f229 := ((f177.keep K174).ext E211)
  have f230 := ((f178.keep K174 (ninS ne7 (ninS nq158 nin0))).ext E211)
  have f231 := ((f179.keep K174).ext E211)
  have f232 := ((f180.keep K174 (ninS (Ne.symm (nx41 b2 Yr43).2) (ninS nq161 nin0))).ext E211)
  have f233 := ((f181.keep K174).ext E211)
  have f234 := ((f182.keep K174 (ninS (Ne.symm (nx121 b2 Yr123).2) (ninS nq163 nin0))).ext E211)
  obtain ⟨t2_224, k2_224, cap2_224, b2_224, cn2_224, rfl, N224q, K224, f235, f236, f237, f238, f239, f240, f241, f242, f243⟩ := hQ224
  have KK224 : Keep h0 T224.heap [] := Keep.trans K211 K224 (allS (Or.inr z2) (allS (Or.inr zq195) all0))
  have CH244 : CHr Z own_EL s.vm h0 T211.vm T224.heap := CH212.trans (CHr.keep K224 (sfS Yr213 (sfS Yr214 sf0)) CH212.1)
  have N224 := Fr.app N174 N224q
  have oq245 : n0 ≤ t2_224 := own_orc f243 oq195 (fun e_ => Nat.le_trans f223 e_)
  have zq245 : h0.size ≤ t2_224 := own_orc f243 zq195 (fun e_ => Nat.le_trans K211.1 e_)
  have nq246 : u0 ≠ t2_224 := own_orn f243 nq196 (fun e_ => Nat.ne_of_lt (Nat.lt_of_lt_of_le f226.lt e_))
  have nq247 : ty ≠ t2_224 := own_orn f243 nq197 (fun e_ => Nat.ne_of_lt (Nat.lt_of_lt_of_le f227.lt e_))
  have nq248 : tw ≠ t2_224 := own_orn f243 nq198 (fun e_ => Nat.ne_of_lt (Nat.lt_of_lt_of_le f228.lt e_))
  have nq249 : u1 ≠ t2_224 := own_orn f243 nq199 (fun e_ => Nat.ne_of_lt (Nat.lt_of_lt_of_le f229.lt e_))
  have nq250 : tc ≠ t2_224 := own_orn f243 nq200 (fun e_ => Nat.ne_of_lt (Nat.lt_of_lt_of_le f230.lt e_))
  have nq251 : b2 ≠ t2_224 := own_orn f243 nq201 (fun e_ => Nat.ne_of_lt (Nat.lt_of_lt_of_le f216.lt e_))
  have nq252 : a41 ≠ t2_224 := own_orn f243 nq202 (fun e_ => Nat.ne_of_lt (Nat.lt_of_lt_of_le f231.lt e_))
  have nq253 : b41 ≠ t2_224 := own_orn f243 nq203 (fun e_ => Nat.ne_of_lt (Nat.lt_of_lt_of_le f232.lt e_))
  have nq254 : a121 ≠ t2_224 := own_orn f243 nq204 (fun e_ => Nat.ne_of_lt (Nat.lt_of_lt_of_le f233.lt e_))
  have nq255 : b121 ≠ t2_224 := own_orn f243 nq205 (fun e_ => Nat.ne_of_lt (Nat.lt_of_lt_of_le f234.lt e_))
  have nq256 : a211 ≠ t2_224 := own_orn f243 (Ne.symm (nx211 t2_174 Yr214).1) (fun e_ => Nat.ne_of_lt (Nat.lt_of_lt_of_le Ea211.lt e_))
  have nq257 : b211 ≠ t2_224 := own_orn f243 (Ne.symm (nx211 t2_174 Yr214).2) (fun e_ => Nat.ne_of_lt (Nat.lt_of_lt_of_le Aa211.lt e_))
  have Yq258 : Safe Z own_EL T211.vm h211 t2_224 := own_ors f243 Yr214 (fun e_ => Safe.new e_)
  have pre259 : ∀ t, Steps p.tables e below (T224.setTop (mkF m 42 #[rv u0, rv u1, rv u1] [(.ref b2)])) t → Steps p.tables e below (s₁.setTop (entryFrame m #[(.ref u0), (.ref u1)] 3)) t := fun t kt => pre215 t (by
   show Steps _ _ _ (T211.setTop (mkF m 39 #[rv u0, rv u1, rv u1] [(.ref a211), (.ref b2)])) _
   refine st224.trans ?_
   exact kt)
  have f260 := (own_staKeep f222 K224 (nsS f216.nostat (nsS f220.nostat ns0)))
  have f261 := (Nat.le_trans f223 K224.1)
  obtain ⟨cq263, kq263, q263a, q263b, q263c⟩ := isOf hZ211 rfl f235
  obtain ⟨_, _, ⟨T262, L262, k262, n262⟩, -, X262, ⟨Lc262, hQ262, l262, y262, z262⟩, st262⟩ := X224.virtualBack hx (y := own_y29) (z := own_y29) hown211 (mvT hZ211 (own_g hw 142 rfl)) (mvT hZ211 (own_g hw 143 rfl)) (notFace_of_selects (args := #[]) (mvT hZ211 (own_g hw 145 rfl))) (mvT hZ211 (own_g hw 145 rfl)) (mvT hZ211 (own_g hw 144 rfl)) (by decide) (backOf (W := 0) (rmTS l Z a0 hw [] b2 t2_224 k2_224 cap2_224 b2_224 cn2_224 (((((([] : List Int32) ++ ([67, 65, 83, 84, 40] : List Int32)) ++ xc) ++ ([32, 65, 83, 32] : List Int32)) ++ xt) ++ ([41] : List Int32)) zC T224.heap n0 f261 f235 f236 f237 f238 f239 f240 f260 hz f242.2 f242.1 (by simp only [List.length_append, List.length_cons, List.length_nil]; omega) f241.2 f241.1) hZ211 (own_g hw 146 rfl) (own_g hw 51 rfl) (by decide) (by decide)) q263a q263c (g := (mkF m 42 #[rv u0, rv u1, rv u1] [(.ref b2)])) rfl (by rw [hml]; rfl) (Steps.refl _) (argsL := []) (rest := []) (lenOf pd___Ljava_lang_String_ rfl) rfl (by show 2 * 0 + _ ≤ _; exact Nat.le_of_eq rfl) (hb hby d7_42) (fun _ _ => ⟨rfl, rfl, (by decide : 13 + 2 ≤ _), (by decide : 242 + 38 ≤ _)⟩)
  dsimp only [Pt.U, Pt.locs, Pt.cells, Pt.slots] at X262 l262 y262 z262 st262 hQ262
  subst l262 y262 z262
  have f264 := (f226.keep K224)
  have f265 := (f227.keep K224)
  have f266 := (f228.keep K224 (ninS ne5 (ninS nq198 nin0)))
  have f267 := (f229.keep K224)
  have f268 := (f230.keep K224 (ninS ne7 (ninS nq200 nin0)))
  have f269 := (f231.keep K224)
  have f270 := (f232.keep K224 (ninS (Ne.symm (nx41 b2 Yr43).2) (ninS nq203 nin0)))
  have f271 := (f233.keep K224)
  have f272 := (f234.keep K224 (ninS (Ne.symm (nx121 b2 Yr123).2) (ninS nq205 nin0)))
  have f273 := (Ea211.keep K224)
  have f274 := (Aa211.keep K224 (ninS (Ne.symm (nx211 b2 Yr213).2) (ninS (Ne.symm (nx211 t2_174 Yr214).2) nin0)))
  obtain ⟨sg_262, yv_262, ky_262, ys_262, rfl, N262q, K262, sx262_0, sx262_1, px262_0, f275, f276, f277, f278, f279, f280⟩ := hQ262
  have osg_262 : n0 ≤ sg_262 := Nat.le_trans f261 sx262_0
  have zsg_262 : h0.size ≤ sg_262 := Nat.le_trans KK224.1 sx262_0
  have ne281 : u0 ≠ sg_262 := Nat.ne_of_lt (Nat.lt_of_lt_of_le f264.lt sx262_0)
  have ne282 : ty ≠ sg_262 := Nat.ne_of_lt (Nat.lt_of_lt_of_le f265.lt sx262_0)
  have ne283 : tw ≠ sg_262 := Nat.ne_of_lt (Nat.lt_of_lt_of_le f266.lt sx262_0)
  have ne284 : u1 ≠ sg_262 := Nat.ne_of_lt (Nat.lt_of_lt_of_le f267.lt sx262_0)
  have ne285 : tc ≠ sg_262 := Nat.ne_of_lt (Nat.lt_of_lt_of_le f268.lt sx262_0)
  have ne286 : b2 ≠ sg_262 := Nat.ne_of_lt (Nat.lt_of_lt_of_le f235.lt sx262_0)
  have ne287 : a41 ≠ sg_262 := Nat.ne_of_lt (Nat.lt_of_lt_of_le f269.lt sx262_0)
  have ne288 : b41 ≠ sg_262 := Nat.ne_of_lt (Nat.lt_of_lt_of_le f270.lt sx262_0)
  have ne289 : a121 ≠ sg_262 := Nat.ne_of_lt (Nat.lt_of_lt_of_le f271.lt sx262_0)
  have ne290 : b121 ≠ sg_262 := Nat.ne_of_lt (Nat.lt_of_lt_of_le f272.lt sx262_0)
  have ne291 : a211 ≠ sg_262 := Nat.ne_of_lt (Nat.lt_of_lt_of_le f273.lt sx262_0)
  have ne292 : b211 ≠ sg_262 := Nat.ne_of_lt (Nat.lt_of_lt_of_le f274.lt sx262_0)
  have ne293 : t2_224 ≠ sg_262 := Nat.ne_of_lt (Nat.lt_of_lt_of_le f239.lt sx262_0)
  have oyv_262 : n0 ≤ yv_262 := Nat.le_trans f261 sx262_1
  have zyv_262 : h0.size ≤ yv_262 := Nat.le_trans KK224.1 sx262_1
  have ne294 : u0 ≠ yv_262 := Nat.ne_of_lt (Nat.lt_of_lt_of_le f264.lt sx262_1)
  have ne295 : ty ≠ yv_262 := Nat.ne_of_lt (Nat.lt_of_lt_of_le f265.lt sx262_1)
  have ne296 : tw ≠ yv_262 := Nat.ne_of_lt (Nat.lt_of_lt_of_le f266.lt sx262_1)
  have ne297 : u1 ≠ yv_262 := Nat.ne_of_lt (Nat.lt_of_lt_of_le f267.lt sx262_1)
  have ne298 : tc ≠ yv_262 := Nat.ne_of_lt (Nat.lt_of_lt_of_le f268.lt sx262_1)
  have ne299 : b2 ≠ yv_262 := Nat.ne_of_lt (Nat.lt_of_lt_of_le f235.lt sx262_1)
  have ne300 : a41 ≠ yv_262 := Nat.ne_of_lt (Nat.lt_of_lt_of_le f269.lt sx262_1)
  have ne301 : b41 ≠ yv_262 := Nat.ne_of_lt (Nat.lt_of_lt_of_le f270.lt sx262_1)
  have ne302 : a121 ≠ yv_262 := Nat.ne_of_lt (Nat.lt_of_lt_of_le f271.lt sx262_1)
  have ne303 : b121 ≠ yv_262 := Nat.ne_of_lt (Nat.lt_of_lt_of_le f272.lt sx262_1)
  have ne304 : a211 ≠ yv_262 := Nat.ne_of_lt (Nat.lt_of_lt_of_le f273.lt sx262_1)
  have ne305 : b211 ≠ yv_262 := Nat.ne_of_lt (Nat.lt_of_lt_of_le f274.lt sx262_1)
  have ne306 : t2_224 ≠ yv_262 := Nat.ne_of_lt (Nat.lt_of_lt_of_le f239.lt sx262_1)
  have Yn307 : Safe Z own_EL T211.vm T224.heap sg_262 := Safe.new sx262_0
  have Yn308 : Safe Z own_EL T211.vm T224.heap yv_262 := Safe.new sx262_1
  have KK262 : Keep h0 T262.heap [] := Keep.trans KK224 K262 all0
  have CH309 : CHr Z own_EL s.vm h0 T211.vm T262.heap := CH244.trans (CHr.keep K262 sf0 CH244.1)
  have N262 := Fr.app N224 N262q
  obtain ⟨fs, hr, hrun, hended, hW, hsame⟩ := X262.leave (v := some (.ref sg_262)) (fun h => by rw [Bd.returns] at h; cases h)
  have f310 := (Nat.le_trans (Nat.le_trans hk211 K224.1) K262.1)
  have qE := hS211.ended (c := ({ frames := 6, cells := 15, slots := 280, locals := 91 } : Room).cells) (k := ({ frames := 6, cells := 15, slots := 280, locals := 91 } : Room).slots) hW (show _ ≤ T262.heap.size from f310) (hsame.mono (by decide) (by decide))
  have qC : CHr Z own_EL s.vm s.heap T262.vm T262.heap := by rw [hh]; exact CH309.trans (CHv.at (show Stand p l e ({ frames := 6, cells := 15, slots := 280, locals := 91 } : Room) (s.setVm T211.vm) m _ below meth c _ _ _ _ from X262) hZ211 hEL CH309.1)
  refine ⟨_, _, pre259 _ ?_, hrun, hended, _, _, rfl, ?_, qC, ⟨_, rfl⟩, qE.1, qE.2.1, qE.2.2⟩
  · show Steps _ _ _ (T224.setTop (mkF m 42 #[rv u0, rv u1, rv u1] [(.ref b2)])) _
    refine st262.trans ?_
    refine XS.astoreN X262.here hx rfl (hb hby d7_45) rfl rfl (l' := #[rv u0, rv u1, rv sg_262]) rfl ?_
    refine XS.aloadN X262.here hx rfl (hb hby d7_46) rfl rfl ?_
    show Steps _ _ _ (T262.setTop (mkF m 47 #[rv u0, rv u1, rv sg_262] [(.ref sg_262)])) _
    exact retOut X262 hx Bd.returns rfl (Or.inr (Or.inr (Or.inr (Or.inr ⟨rfl, rfl, rfl⟩)))) (hb hby d7_47) hr
  · show Q_rmT1 Z u0 u1 ty tw kw zt vw tc kc zc vc xc xt zC h0 n0 _ T262.heap _
    exact ⟨sg_262, yv_262, ky_262, cn2_224, ys_262, rfl, N262, KK262, zsg_262, zyv_262, px262_0, f275, f276, f277, f279, (show own_has _ ((((([67, 65, 83, 84, 40] : List Int32) ++ xc) ++ ([32, 65, 83, 32] : List Int32)) ++ xt) ++ ([41] : List Int32)) from f280), (show own_len ((((([67, 65, 83, 84, 40] : List Int32) ++ xc) ++ ([32, 65, 83, 32] : List Int32)) ++ xt) ++ ([41] : List Int32)) _ from f242.1)⟩

theorem ef_rmEq (m : MethodId) (x0 : Addr) (x1 : Int32) (x2 : Int32) : entryFrame m #[(.ref x0), (.int x1), (.int x2)] 3 = mkF m 0 #[rv x0, iv x1, iv x2] [] := by first | (simp [entryFrame, mkF, argsToLocals, Value.category]; done) | rfl
set_option maxRecDepth 65536 in
set_option maxHeartbeats 40000000 in
theorem rmEq (l : Launch) (Z : State) (a0 : Array Value) (hw : ∀ d ∈ tables_1, d.before a0 Z = true) (ws : List Jvm.Cond) (u0 : Addr) (p1 : Int32) (p2 : Int32) (tv : Addr) (kt : ClassId) (z : Int32) (vs : List Value) (zC : Int32) (fv : Value) (h0 : Heap) (n0 : Nat) (Z0 : n0 ≤ h0.size) (P_E_u0 : Exa Z h0 u0 "java/lang/String") (P_F_u0_String_value : Fld Z h0 u0 "java/lang/String" "value" "[B" (.ref tv)) (P_F_u0_String_coder : Fld Z h0 u0 "java/lang/String" "coder" "B" (.int (0 : Int32))) (P_G_tv : Arv Z h0 tv kt .byte z vs (.int 0)) (P_S_String_COMPACT_STRINGS : Sta Z h0 "java/lang/String" "COMPACT_STRINGS" "Z" (.int zC)) (hz : ¬ (zC = (0 : Int32))) (P_S_Preconditions_SIOOBE_FORMATTER : Sta Z h0 "jdk/internal/util/Preconditions" "SIOOBE_FORMATTER" "Ljava/util/function/BiFunction;" fv) (hfv : (fv = .null ∨ ∃ a, fv = .ref a)) (hi0 : ¬ p1 < 0) (hi1 : p1 < z) (hch : (nar .char (own_ch (own_at vs p1))) = p2) :
    own_MF l own_y36 (Jvm.Cond.code own_y36 method_2_code 3 (some .boolean)) ws ({ frames := 4, cells := 0, slots := 0, locals := 53 } : Room) #[(.ref u0), (.int p1), (.int p2)] Z h0 (own_QP (some (.int (1 : Int32))) h0 n0) := by
  refine MetFree.of_bodySF (plainFor_of_name pn_33) hisR ?_
  intro p e s m args below meth c s₁ Bd hml0 hP hK
  obtain ⟨rfl, hZ, hh⟩ := hP
  have hx := Bd.exec
  have hby := Bd.bytes
  have hml : c.maxLocals = 3 := hml0
  have hown : s.vm.findClass "com/example/librowmap/librowmap/sql/DialectTextOfPinLaw" = some m.cls := findClass_of_methodNamed Bd.named
  have hnm := (name_of_methodNamed Bd.named Bd.method).1
  have X0 : Stand p l e ({ frames := 4, cells := 0, slots := 0, locals := 53 } : Room) s m #[(.ref u0), (.int p1), (.int p2)] below meth c s₁ [] 0 0 := Stand.of_body Bd
  have e0 : s₁.heap = h0 := by rw [← hh, Bd.state]; rfl
  have N0 := Fr.nil n0
  have pre0 : ∀ t, Steps p.tables e below (s₁.setTop (mkF m 0 #[rv u0, iv p1, iv p2] [])) t → Steps p.tables e below (s₁.setTop (entryFrame m #[(.ref u0), (.int p1), (.int p2)] 3)) t := fun t k => castTop (ef_rmEq m u0 p1 p2) k
  obtain ⟨cq2, kq2, q2a, q2b, q2c⟩ := isOf hZ e0 P_E_u0
  obtain ⟨_, _, ⟨T1, L1, k1, n1⟩, -, X1, ⟨Lc1, hQ1, l1, y1, z1⟩, st1⟩ := X0.virtualBack hx (y := own_y2) (z := own_y2) hown (mvT hZ (own_g hw 181 rfl)) (mvT hZ (own_g hw 81 rfl)) (notFace_of_selects (args := #[]) (mvT hZ (own_g hw 83 rfl))) (mvT hZ (own_g hw 83 rfl)) (mvT hZ (own_g hw 82 rfl)) (by decide) (backOf (W := 1) (rmLe l Z a0 hw [] u0 tv kt z vs zC h0 n0 Z0 P_E_u0 P_F_u0_String_value P_F_u0_String_coder P_G_tv P_S_String_COMPACT_STRINGS hz) hZ (own_g hw 84 rfl) (own_g hw 14 rfl) (by decide) (by decide)) q2a q2c (g := (mkF m 6 #[rv u0, iv p1, iv p2] [(.ref u0), (.int p1)])) rfl (by rw [hml]; rfl) (Steps.refl _) (argsL := []) (rest := [(.int p1)]) (lenOf pd___I rfl) rfl (by show 2 * 0 + _ ≤ _; exact Nat.le_of_eq rfl) (hb hby d33_6) (fun _ _ => ⟨rfl, e0, (by decide : 0 + 0 ≤ _), (by decide : 0 + 0 ≤ _)⟩)
  dsimp only [Pt.U, Pt.locs, Pt.cells, Pt.slots] at X1 l1 y1 z1 st1 hQ1
  subst l1 y1 z1
  obtain ⟨rfl, N1q, e1⟩ := hQ1
  have N1 := Fr.app N0 N1q
  obtain ⟨cq4, kq4, q4a, q4b, q4c⟩ := isOf hZ e1 P_E_u0
  obtain ⟨_, _, ⟨T3, L3, k3, n3⟩, -, X3, ⟨Lc3, hQ3, l3, y3, z3⟩, st3⟩ := X1.virtualBack hx (y := own_y9) (z := own_y9) hown (mvT hZ (own_g hw 186 rfl)) (mvT hZ (own_g hw 187 rfl)) (notFace_of_selects (args := #[]) (mvT hZ (own_g hw 189 rfl))) (mvT hZ (own_g hw 189 rfl)) (mvT hZ (own_g hw 188 rfl)) (by decide) (backOf (W := 0) (rmCA l Z a0 hw [] u0 p1 tv kt z vs zC fv h0 n0 Z0 P_E_u0 P_F_u0_String_value P_F_u0_String_coder P_G_tv P_S_String_COMPACT_STRINGS hz P_S_Preconditions_SIOOBE_FORMATTER hfv hi0 hi1) hZ (own_g hw 190 rfl) (own_g hw 14 rfl) (by decide) (by decide)) q4a q4c (g := (mkF m 14 #[rv u0, iv p1, iv p2] [(.int p1), (.ref u0)])) rfl (by rw [hml]; rfl) (Steps.refl _) (argsL := [(.int p1)]) (rest := []) (lenOf pd__I_C rfl) rfl (by show 2 * 0 + _ ≤ _; exact Nat.le_of_eq rfl) (hb hby d33_14) (fun _ _ => ⟨rfl, e1, (by decide : 0 + 0 ≤ _), (by decide : 0 + 0 ≤ _)⟩)
  dsimp only [Pt.U, Pt.locs, Pt.cells, Pt.slots] at X3 l3 y3 z3 st3 hQ3
  subst l3 y3 z3
  obtain ⟨rfl, N3q, e3⟩ := hQ3
  have N3 := Fr.app N1 N3q
  obtain ⟨fs, hr, hrun, hended, hW, hsame⟩ := X3.leave (v := some (.int (1 : Int32))) (fun h => by rw [Bd.returns] at h; cases h)
  refine ⟨_, _, pre0 _ ?_, hrun, hended, _, _, rfl, ?_, ⟨_, rfl⟩, hW, hsame.mono (by decide) (by decide)⟩
  · refine XS.iloadN X0.here hx rfl (hb hby d33_0) rfl ?_
    refine XS.ifNo X0.here hx rfl (hb hby d33_1) rfl ((if0 _ _).trans (flt hi0).1) ?_
    refine XS.iloadN X0.here hx rfl (hb hby d33_4) rfl ?_
    refine XS.aloadN X0.here hx rfl (hb hby d33_5) rfl rfl ?_
    show Steps _ _ _ (s₁.setTop (mkF m 6 #[rv u0, iv p1, iv p2] [(.ref u0), (.int p1)])) _
    refine st1.trans ?_
    refine XS.icmpNo X1.here hx rfl (hb hby d33_9) rfl (tlt hi1).2.1 ?_
    refine XS.aloadN X1.here hx rfl (hb hby d33_12) rfl rfl ?_
    refine XS.iloadN X1.here hx rfl (hb hby d33_13) rfl ?_
    show Steps _ _ _ (T1.setTop (mkF m 14 #[rv u0, iv p1, iv p2] [(.int p1), (.ref u0)])) _
    refine st3.trans ?_
    refine XS.iloadN X3.here hx rfl (hb hby d33_17) rfl ?_
    refine XS.icmpNo X3.here hx rfl (hb hby d33_18) rfl (teq hch).2 ?_
    refine XS.iconst X3.here hx rfl (hb hby d33_21) ?_
    refine XS.goto X3.here hx rfl (pc0 := 22) (pc' := 26) rfl (hb hby d33_22) (by decide) (by decide) ?_
    show Steps _ _ _ (T3.setTop (mkF m 26 #[rv u0, iv p1, iv p2] [(.int (1 : Int32))])) _
    exact retN X3 hx (t := .boolean) Bd.returns (by simp) (hb hby d33_26) hr
  · show own_QP (some (.int (1 : Int32))) h0 n0 _ T3.heap _
    rw [e3]
    exact ⟨rfl, N3, rfl⟩

theorem ef_rmEs (m : MethodId) (x0 : Addr) (x1 : Addr) : entryFrame m #[(.ref x0), (.ref x1)] 3 = mkF m 0 #[rv x0, rv x1, .unset] [] := by first | (simp [entryFrame, mkF, argsToLocals, Value.category]; done) | rfl
set_option maxRecDepth 65536 in
set_option maxHeartbeats 40000000 in
theorem rmEs (l : Launch) (Z : State) (a0 : Array Value) (hw : ∀ d ∈ tables_1, d.before a0 Z = true) (ws : List Jvm.Cond) (u0 : Addr) (h0 : Heap) (n0 : Nat) (Z0 : n0 ≤ h0.size) (P_E_u0 : Exa Z h0 u0 "java/lang/String") :
    own_MF l own_y37 (Jvm.Cond.code own_y37 jdk_42_method_66_code 3 (some .boolean)) ws ({ frames := 0, cells := 0, slots := 0, locals := 0 } : Room) #[(.ref u0), (.ref u0)] Z h0 (own_QP (some (.int (1 : Int32))) h0 n0) := by
  refine MetFree.of_bodySF (plainFor_of_name pn_39) hisR ?_
  intro p e s m args below meth c s₁ Bd hml0 hP hK
  obtain ⟨rfl, hZ, hh⟩ := hP
  have hx := Bd.exec
  have hby := Bd.bytes
  have hml : c.maxLocals = 3 := hml0
  have hown : s.vm.findClass "java/lang/String" = some m.cls := findClass_of_methodNamed Bd.named
  have hnm := (name_of_methodNamed Bd.named Bd.method).1
  have X0 : Stand p l e ({ frames := 0, cells := 0, slots := 0, locals := 0 } : Room) s m #[(.ref u0), (.ref u0)] below meth c s₁ [] 0 0 := Stand.of_body Bd
  have e0 : s₁.heap = h0 := by rw [← hh, Bd.state]; rfl
  have N0 := Fr.nil n0
  have pre0 : ∀ t, Steps p.tables e below (s₁.setTop (mkF m 0 #[rv u0, rv u0, .unset] [])) t → Steps p.tables e below (s₁.setTop (entryFrame m #[(.ref u0), (.ref u0)] 3)) t := fun t k => castTop (ef_rmEs m u0 u0) k
  obtain ⟨fs, hr, hrun, hended, hW, hsame⟩ := X0.leave (v := some (.int (1 : Int32))) (fun h => by rw [Bd.returns] at h; cases h)
  refine ⟨_, _, pre0 _ ?_, hrun, hended, _, _, rfl, ?_, ⟨_, rfl⟩, hW, hsame.mono (by decide) (by decide)⟩
  · refine XS.aloadN X0.here hx rfl (hb hby d39_0) rfl rfl ?_
    refine XS.aloadN X0.here hx rfl (hb hby d39_1) rfl rfl ?_
    refine Jvm.RoadKit.acmp (g := (mkF m 2 #[rv u0, rv u0, .unset] [(.ref u0), (.ref u0)])) X0 hx rfl rfl rfl (pc0 := 2) (pc' := 5) (same := true) rfl (hb hby d39_2) rfl (decide_eq_true rfl) (by decide) (by decide) ?_
    refine XS.iconst X0.here hx rfl (hb hby d39_5) ?_
    show Steps _ _ _ (s₁.setTop (mkF m 6 #[rv u0, rv u0, .unset] [(.int (1 : Int32))])) _
    exact retN X0 hx (t := .boolean) Bd.returns (by simp) (hb hby d39_6) hr
  · show own_QP (some (.int (1 : Int32))) h0 n0 _ s₁.heap _
    rw [e0]
    exact ⟨rfl, N0, rfl⟩

theorem ef_rm0 (m : MethodId) (x0 : Int32) (x1 : Int32) (x2 : Int32) (x3 : Int32) (x4 : Int32) : entryFrame m #[(.int x0), (.int x1), (.int x2), (.int x3), (.int x4)] maxLocals = mkF m 0 #[iv x0, iv x1, iv x2, iv x3, iv x4, .unset, .unset, .unset, .unset, .unset, .unset, .unset, .unset, .unset, .unset, .unset, .unset, .unset] [] := by first | (simp [entryFrame, mkF, argsToLocals, Value.category, maxLocals]; done) | rfl
set_option maxRecDepth 65536 in
set_option maxHeartbeats 40000000 in
theorem rm0 (l : Launch) (Z : State) (a0 : Array Value) (hw : ∀ d ∈ tables_1, d.before a0 Z = true) (ws : List Jvm.Cond) (p0 : Int32) (p1 : Int32) (p2 : Int32) (p3 : Int32) (p4 : Int32) (zC : Int32) (fv : Value) (wP : Addr) (wM : Addr) (wH : Addr) (wQ : Addr) (tywP : Addr) (twwP : Addr) (kwwP : ClassId) (tywH : Addr) (twwH : Addr) (kwwH : ClassId) (h0 : Heap) (n0 : Nat) (Z0 : n0 ≤ h0.size) (P_S_String_COMPACT_STRINGS : Sta Z h0 "java/lang/String" "COMPACT_STRINGS" "Z" (.int zC)) (hz : ¬ (zC = (0 : Int32))) (P_S_Preconditions_SIOOBE_FORMATTER : Sta Z h0 "jdk/internal/util/Preconditions" "SIOOBE_FORMATTER" "Ljava/util/function/BiFunction;" fv) (hfv : (fv = .null ∨ ∃ a, fv = .ref a)) (P_S_Dialect_POSTGRESQL : Sta Z h0 "com/example/librowmap/librowmap/sql/Dialect" "POSTGRESQL" "Lcom/example/librowmap/librowmap/sql/Dialect;" (.ref wP)) (P_E_wP : Exa Z h0 wP "com/example/librowmap/librowmap/sql/Dialect") (P_F_wP_Dialect_textType : Fld Z h0 wP "com/example/librowmap/librowmap/sql/Dialect" "textType" "Ljava/lang/String;" (.ref tywP)) (P_E_tywP : Exa Z h0 tywP "java/lang/String") (P_F_tywP_String_value : Fld Z h0 tywP "java/lang/String" "value" "[B" (.ref twwP)) (P_F_tywP_String_coder : Fld Z h0 tywP "java/lang/String" "coder" "B" (.int (0 : Int32))) (P_V_twwP : Arv Z h0 twwP kwwP .byte (4 : Int32) [(.int (116 : Int32)), (.int (101 : Int32)), (.int (120 : Int32)), (.int (116 : Int32))] (.int (0 : Int32))) (P_S_Dialect_MARIADB : Sta Z h0 "com/example/librowmap/librowmap/sql/Dialect" "MARIADB" "Lcom/example/librowmap/librowmap/sql/Dialect;" (.ref wM)) (P_E_wM : Exa Z h0 wM "com/example/librowmap/librowmap/sql/Dialect") (P_F_wM_Dialect_textType : Fld Z h0 wM "com/example/librowmap/librowmap/sql/Dialect" "textType" "Ljava/lang/String;" .null) (P_S_Dialect_H2 : Sta Z h0 "com/example/librowmap/librowmap/sql/Dialect" "H2" "Lcom/example/librowmap/librowmap/sql/Dialect;" (.ref wH)) (P_E_wH : Exa Z h0 wH "com/example/librowmap/librowmap/sql/Dialect") (P_F_wH_Dialect_textType : Fld Z h0 wH "com/example/librowmap/librowmap/sql/Dialect" "textType" "Ljava/lang/String;" (.ref tywH)) (P_E_tywH : Exa Z h0 tywH "java/lang/String") (P_F_tywH_String_value : Fld Z h0 tywH "java/lang/String" "value" "[B" (.ref twwH)) (P_F_tywH_String_coder : Fld Z h0 tywH "java/lang/String" "coder" "B" (.int (0 : Int32))) (P_V_twwH : Arv Z h0 twwH kwwH .byte (7 : Int32) [(.int (86 : Int32)), (.int (65 : Int32)), (.int (82 : Int32)), (.int (67 : Int32)), (.int (72 : Int32)), (.int (65 : Int32)), (.int (82 : Int32))] (.int (0 : Int32))) (P_S_Dialect_SQL_SERVER : Sta Z h0 "com/example/librowmap/librowmap/sql/Dialect" "SQL_SERVER" "Lcom/example/librowmap/librowmap/sql/Dialect;" (.ref wQ)) (P_E_wQ : Exa Z h0 wQ "com/example/librowmap/librowmap/sql/Dialect") (P_F_wQ_Dialect_textType : Fld Z h0 wQ "com/example/librowmap/librowmap/sql/Dialect" "textType" "Ljava/lang/String;" .null) :
    MetFree l x (head1 (Jvm.Cond.code x code maxLocals ret :: ws) room_1) (fun a U => a = #[(.int p0), (.int p1), (.int p2), (.int p3), (.int p4)] ∧ Z.Warmed39 U.vm ∧ U.heap = h0 ∧ CHv Z own_EL U.vm h0) (fun _ _ _ _ _ => True) (fun _ U o U' => ∃ v L, o = .returned v ∧ own_Q0 n0 v U'.heap L ∧ ReturnedEndW U o U' L room_1.cells room_1.slots) := by
  refine MetFree.of_bodySF (plainFor_of_name pn_0) hisR ?_
  intro p e s m args below meth c s₁ Bd hml0 hP hK
  obtain ⟨rfl, hZ, hh, hCH⟩ := hP
  have hx := Bd.exec
  have hby := Bd.bytes
  have hml : c.maxLocals = 18 := hml0
  have hown : s.vm.findClass "com/example/librowmap/librowmap/sql/DialectTextOfPinLaw" = some m.cls := findClass_of_methodNamed Bd.named
  have hnm := (name_of_methodNamed Bd.named Bd.method).1
  have X0 : Stand p l e room_1 s m #[(.int p0), (.int p1), (.int p2), (.int p3), (.int p4)] below meth c s₁ [] 0 0 := Stand.of_body Bd
  have e0 : s₁.heap = h0 := by rw [← hh, Bd.state]; rfl
  have N0 := Fr.nil n0
  have pre0 : ∀ t, Steps p.tables e below (s₁.setTop (mkF m 0 #[iv p0, iv p1, iv p2, iv p3, iv p4, .unset, .unset, .unset, .unset, .unset, .unset, .unset, .unset, .unset, .unset, .unset, .unset, .unset] [])) t → Steps p.tables e below (s₁.setTop (entryFrame m #[(.int p0), (.int p1), (.int p2), (.int p3), (.int p4)] maxLocals)) t := fun t k => castTop (ef_rm0 m p0 p1 p2 p3 p4) k
  have hEL : EW Z a0 own_EL := own_hEL hw
  have wS : ∀ a ∈ Bundle.stringAtoms, a.before a0 Z = true := fun d hd => hw d ((by decide +kernel : ∀ d ∈ Bundle.stringAtoms, d ∈ tables_1) d hd)
  have CH0 : CHr Z own_EL s.vm h0 s.vm h0 := CHr.refl hCH
  have hS0 : s.Since s.vm h0.size := (State.WarmedH.refl s).since _
  obtain ⟨T1, h1, k1, X1, e1, E1, A1, O1, st1⟩ := newR X0 hx hZ hown (own_g hw 0 rfl) (own_g hw 1 rfl) e0 (g := (mkF m 1 #[iv p0, iv p1, iv p2, iv p3, iv p4, .unset, .unset, .unset, .unset, .unset, .unset, .unset, .unset, .unset, .unset, .unset, .unset, .unset] [(.int (4 : Int32))])) rfl (hb hby at_1) rfl (by decide) (cap := 4) (by decide) (by decide) (by decide) (by decide)
  obtain ⟨b1, g1⟩ : ∃ z, z = h0.size := ⟨_, rfl⟩
  rw [← g1] at A1 st1
  have ne2 : wP ≠ b1 := Nat.ne_of_lt (Nat.lt_of_lt_of_le P_E_wP.lt (Nat.le_of_eq g1.symm))
  have ne3 : tywP ≠ b1 := Nat.ne_of_lt (Nat.lt_of_lt_of_le P_E_tywP.lt (Nat.le_of_eq g1.symm))
  have ne4 : twwP ≠ b1 := Nat.ne_of_lt (Nat.lt_of_lt_of_le P_V_twwP.lt (Nat.le_of_eq g1.symm))
  have ne5 : wM ≠ b1 := Nat.ne_of_lt (Nat.lt_of_lt_of_le P_E_wM.lt (Nat.le_of_eq g1.symm))
  have ne6 : wH ≠ b1 := Nat.ne_of_lt (Nat.lt_of_lt_of_le P_E_wH.lt (Nat.le_of_eq g1.symm))
  have ne7 : tywH ≠ b1 := Nat.ne_of_lt (Nat.lt_of_lt_of_le P_E_tywH.lt (Nat.le_of_eq g1.symm))
  have ne8 : twwH ≠ b1 := Nat.ne_of_lt (Nat.lt_of_lt_of_le P_V_twwH.lt (Nat.le_of_eq g1.symm))
  have ne9 : wQ ≠ b1 := Nat.ne_of_lt (Nat.lt_of_lt_of_le P_E_wQ.lt (Nat.le_of_eq g1.symm))
  have o1 : n0 ≤ b1 := Nat.le_trans Z0 (Nat.le_of_eq g1.symm)
  have z1 : h0.size ≤ b1 := Nat.le_trans (Keep.refl h0 []).1 (Nat.le_of_eq g1.symm)
  have CH10 : CHr Z own_EL s.vm h0 s.vm h1 := CH0.trans (CHr.ext E1 CH0.1)
  have Yb11 : Safe Z own_EL s.vm h1 b1 := Safe.ext E1 CH0.1 (Safe.new (Nat.le_of_eq g1.symm))
  have K1 : Keep h0 h1 [] := (Keep.refl h0 []).ext E1
  have V1 : Arv Z h1 b1 k1 (.object "com/example/librowmap/librowmap/sql/Dialect") (4 : Int32) [.null, .null, .null, .null] .null := (Arv.new A1 (by decide)).pad (pad_rep [] .null 4)
  have f12 := (P_S_Dialect_POSTGRESQL.ext E1)
  obtain ⟨T13, X13, e13, st13⟩ := getS2 X1 hx hZ hown (host := "") (Or.inl (own_g hw 2 rfl)) Via.refl e1 f12 (g := (mkF m 6 #[iv p0, iv p1, iv p2, iv p3, iv p4, .unset, .unset, .unset, .unset, .unset, .unset, .unset, .unset, .unset, .unset, .unset, .unset, .unset] [(.int (0 : Int32)), (.ref b1), (.ref b1)])) rfl (hb hby at_6)
  have f14 := (P_E_wP.ext E1)
  obtain ⟨cl15, Ar15, qq15, S15, N15_, H15, G15⟩ := id V1
  have hin15 : ¬ ((0 : Int32) < 0 ∨ cl15.slots.size ≤ ((0 : Int32)).toNatClampNeg) := inb_of S15 ⟨by decide, by decide⟩
  obtain ⟨T16, h16, X16, e16, W16, st16⟩ := stR X13 hx hZ e13 Ar15 (j := (0 : Int32)) hin15 rfl (Sto.ofV Ar15 qq15 O1 (Ins.self f14)) (g := (mkF m 9 #[iv p0, iv p1, iv p2, iv p3, iv p4, .unset, .unset, .unset, .unset, .unset, .unset, .unset, .unset, .unset, .unset, .unset, .unset, .unset] [(.ref wP), (.int (0 : Int32)), (.ref b1), (.ref b1)])) rfl rfl (hb hby at_9)
  have CH17 : CHr Z own_EL s.vm h0 s.vm h16 := CH10.trans (CHr.wr W16 Yb11 CH10.1)
  have V16 : Arv Z h16 b1 k1 (.object "com/example/librowmap/librowmap/sql/Dialect") (4 : Int32) [(.ref wP), .null, .null, .null] .null := Arv.set Ar15 qq15 S15 N15_ H15 G15 rfl W16 0 rfl (Nat.le_of_ble_eq_true rfl)
  have N18 := Fr.snoc X16 N0 o1
  have K19 : Keep h0 h16 [] := K1.wr W16 (Or.inr z1)
  have f20 := ((P_S_Dialect_MARIADB.ext E1).wr W16)
  obtain ⟨T21, X21, e21, st21⟩ := getS2 X16 hx hZ hown (host := "") (Or.inl (own_g hw 6 rfl)) Via.refl e16 f20 (g := (mkF m 12 #[iv p0, iv p1, iv p2, iv p3, iv p4, .unset, .unset, .unset, .unset, .unset, .unset, .unset, .unset, .unset, .unset, .unset, .unset, .unset] [(.int (1 : Int32)), (.ref b1), (.ref b1)])) rfl (hb hby at_12)
  have f22 := ((P_E_wM.ext E1).wr W16)
  have f23 : Safe Z own_EL s.vm h16 b1 := (Safe.wr W16 Yb11 CH10.1 Yb11)
  obtain ⟨cl24, Ar24, qq24, S24, N24_, H24, G24⟩ := id V16
  have hin24 : ¬ ((1 : Int32) < 0 ∨ cl24.slots.size ≤ ((1 : Int32)).toNatClampNeg) := inb_of S24 ⟨by decide, by decide⟩
  obtain ⟨T25, h25, X25, e25, W25, st25⟩ := stR X21 hx hZ e21 Ar24 (j := (1 : Int32)) hin24 rfl (Sto.ofV Ar24 qq24 O1 (Ins.self f22)) (g := (mkF m 15 #[iv p0, iv p1, iv p2, iv p3, iv p4, .unset, .unset, .unset, .unset, .unset, .unset, .unset, .unset, .unset, .unset, .unset, .unset, .unset] [(.ref wM), (.int (1 : Int32)), (.ref b1), (.ref b1)])) rfl rfl (hb hby at_15)
  have CH26 : CHr Z own_EL s.vm h0 s.vm h25 := CH17.trans (CHr.wr W25 f23 CH17.1)
  have V25 : Arv Z h25 b1 k1 (.object "com/example/librowmap/librowmap/sql/Dialect") (4 : Int32) [(.ref wP), (.ref wM), .null, .null] .null := Arv.set Ar24 qq24 S24 N24_ H24 G24 rfl W25 1 rfl (Nat.le_of_ble_eq_true rfl)
  have N27 := Fr.snoc X25 N18 o1
  have K28 : Keep h0 h25 [] := K19.wr W25 (Or.inr z1)
  have f29 := (((P_S_Dialect_H2.ext E1).wr W16).wr W25)
  obtain ⟨T30, X30, e30, st30⟩ := getS2 X25 hx hZ hown (host := "") (Or.inl (own_g hw 8 rfl)) Via.refl e25 f29 (g := (mkF m 18 #[iv p0, iv p1, iv p2, iv p3, iv p4, .unset, .unset, .unset, .unset, .unset, .unset, .unset, .unset, .unset, .unset, .unset, .unset, .unset] [(.int (2 : Int32)), (.ref b1), (.ref b1)])) rfl (hb hby at_18)
  have f31 := (((P_E_wH.ext E1).wr W16).wr W25)
  have f32 : Safe Z own_EL s.vm h25 b1 := (Safe.wr W25 f23 CH17.1 f23)
  obtain ⟨cl33, Ar33, qq33, S33, N33_, H33, G33⟩ := id V25
  have hin33 : ¬ ((2 : Int32) < 0 ∨ cl33.slots.size ≤ ((2 : Int32)).toNatClampNeg) := inb_of S33 ⟨by decide, by decide⟩
  obtain ⟨T34, h34, X34, e34, W34, st34⟩ := stR X30 hx hZ e30 Ar33 (j := (2 : Int32)) hin33 rfl (Sto.ofV Ar33 qq33 O1 (Ins.self f31)) (g := (mkF m 21 #[iv p0, iv p1, iv p2, iv p3, iv p4, .unset, .unset, .unset, .unset, .unset, .unset, .unset, .unset, .unset, .unset, .unset, .unset, .unset] [(.ref wH), (.int (2 : Int32)), (.ref b1), (.ref b1)])) rfl rfl (hb hby at_21)
  have CH35 : CHr Z own_EL s.vm h0 s.vm h34 := CH26.trans (CHr.wr W34 f32 CH26.1)
  have V34 : Arv Z h34 b1 k1 (.object "com/example/librowmap/librowmap/sql/Dialect") (4 : Int32) [(.ref wP), (.ref wM), (.ref wH), .null] .null := Arv.set Ar33 qq33 S33 N33_ H33 G33 rfl W34 2 rfl (Nat.le_of_ble_eq_true rfl)
  have N36 := Fr.snoc X34 N27 o1
  have K37 : Keep h0 h34 [] := K28.wr W34 (Or.inr z1)
  have f38 := ((((P_S_Dialect_SQL_SERVER.ext E1).wr W16).wr W25).wr W34)
  obtain ⟨T39, X39, e39, st39⟩ := getS2 X34 hx hZ hown (host := "") (Or.inl (own_g hw 10 rfl)) Via.refl e34 f38 (g := (mkF m 24 #[iv p0, iv p1, iv p2, iv p3, iv p4, .unset, .unset, .unset, .unset, .unset, .unset, .unset, .unset, .unset, .unset, .unset, .unset, .unset] [(.int (3 : Int32)), (.ref b1), (.ref b1)])) rfl (hb hby at_24)
  have f40 := ((((P_E_wQ.ext E1).wr W16).wr W25).wr W34)
  have f41 : Safe Z own_EL s.vm h34 b1 := (Safe.wr W34 f32 CH26.1 f32)
  obtain ⟨cl42, Ar42, qq42, S42, N42_, H42, G42⟩ := id V34
  have hin42 : ¬ ((3 : Int32) < 0 ∨ cl42.slots.size ≤ ((3 : Int32)).toNatClampNeg) := inb_of S42 ⟨by decide, by decide⟩
  obtain ⟨T43, h43, X43, e43, W43, st43⟩ := stR X39 hx hZ e39 Ar42 (j := (3 : Int32)) hin42 rfl (Sto.ofV Ar42 qq42 O1 (Ins.self f40)) (g := (mkF m 27 #[iv p0, iv p1, iv p2, iv p3, iv p4, .unset, .unset, .unset, .unset, .unset, .unset, .unset, .unset, .unset, .unset, .unset, .unset, .unset] [(.ref wQ), (.int (3 : Int32)), (.ref b1), (.ref b1)])) rfl rfl (hb hby at_27)
  have CH44 : CHr Z own_EL s.vm h0 s.vm h43 := CH35.trans (CHr.wr W43 f41 CH35.1)
  have V43 : Arv Z h43 b1 k1 (.object "com/example/librowmap/librowmap/sql/Dialect") (4 : Int32) [(.ref wP), (.ref wM), (.ref wH), (.ref wQ)] .null := Arv.set Ar42 qq42 S42 N42_ H42 G42 rfl W43 3 rfl (Nat.le_of_ble_eq_true rfl)
  have N45 := Fr.snoc X43 N36 o1
  have K46 : Keep h0 h43 [] := K37.wr W43 (Or.inr z1)
  have pre47 : ∀ t, Steps p.tables e below (T43.setTop (mkF m 65 #[iv p0, iv p1, iv p2, iv p3, iv p4, rv b1, iv (p0 &&& (3 : Int32)), iv (p1 &&& (3 : Int32)), iv ((p2 &&& (255 : Int32)).toUInt32.toUInt16.toUInt32.toInt32), iv ((p3 &&& (255 : Int32)).toUInt32.toUInt16.toUInt32.toInt32), iv ((p4 &&& (255 : Int32)).toUInt32.toUInt16.toUInt32.toInt32), .unset, .unset, .unset, .unset, .unset, .unset, .unset] [])) t → Steps p.tables e below (s₁.setTop (entryFrame m #[(.int p0), (.int p1), (.int p2), (.int p3), (.int p4)] maxLocals)) t := fun t kt => pre0 t (by
   refine XS.iconst X0.here hx rfl (hb hby at_0) ?_
   refine st1 _ ?_
   refine XS.dup X1.here hx rfl (hb hby at_4) rfl rfl ?_
   refine XS.iconst X1.here hx rfl (hb hby at_5) ?_
   refine st13 _ ?_
   refine st16 _ ?_
   refine XS.dup X16.here hx rfl (hb hby at_10) rfl rfl ?_
   refine XS.iconst X16.here hx rfl (hb hby at_11) ?_
   refine st21 _ ?_
   refine st25 _ ?_
   refine XS.dup X25.here hx rfl (hb hby at_16) rfl rfl ?_
   refine XS.iconst X25.here hx rfl (hb hby at_17) ?_
   refine st30 _ ?_
   refine st34 _ ?_
   refine XS.dup X34.here hx rfl (hb hby at_22) rfl rfl ?_
   refine XS.iconst X34.here hx rfl (hb hby at_23) ?_
   refine st39 _ ?_
   refine st43 _ ?_
   refine XS.astore X43.here hx rfl (hb hby at_28) rfl rfl (l' := #[iv p0, iv p1, iv p2, iv p3, iv p4, rv b1, .unset, .unset, .unset, .unset, .unset, .unset, .unset, .unset, .unset, .unset, .unset, .unset]) rfl ?_
   refine XS.iloadN X43.here hx rfl (hb hby at_30) rfl ?_
   refine XS.iconst X43.here hx rfl (hb hby at_31) ?_
   refine XS.iand X43.here hx rfl (hb hby at_32) rfl ?_
   refine XS.istore X43.here hx rfl (hb hby at_33) rfl (l' := #[iv p0, iv p1, iv p2, iv p3, iv p4, rv b1, iv (p0 &&& (3 : Int32)), .unset, .unset, .unset, .unset, .unset, .unset, .unset, .unset, .unset, .unset, .unset]) rfl ?_
   show Steps _ _ _ (T43.setTop (mkF m 35 #[iv p0, iv p1, iv p2, iv p3, iv p4, rv b1, iv (p0 &&& (3 : Int32)), .unset, .unset, .unset, .unset, .unset, .unset, .unset, .unset, .unset, .unset, .unset] [])) _
   refine XS.iloadN X43.here hx rfl (hb hby at_35) rfl ?_
   refine XS.iconst X43.here hx rfl (hb hby at_36) ?_
   refine XS.iand X43.here hx rfl (hb hby at_37) rfl ?_
   refine XS.istore X43.here hx rfl (hb hby at_38) rfl (l' := #[iv p0, iv p1, iv p2, iv p3, iv p4, rv b1, iv (p0 &&& (3 : Int32)), iv (p1 &&& (3 : Int32)), .unset, .unset, .unset, .unset, .unset, .unset, .unset, .unset, .unset, .unset]) rfl ?_
   refine XS.iloadN X43.here hx rfl (hb hby at_40) rfl ?_
   refine XS.sipush X43.here hx rfl (hb hby at_41) ?_
   refine XS.iand X43.here hx rfl (hb hby at_44) rfl ?_
   refine XS.i2c X43.here hx rfl (hb hby at_45) rfl ?_
   refine XS.istore X43.here hx rfl (hb hby at_46) rfl (l' := #[iv p0, iv p1, iv p2, iv p3, iv p4, rv b1, iv (p0 &&& (3 : Int32)), iv (p1 &&& (3 : Int32)), iv ((p2 &&& (255 : Int32)).toUInt32.toUInt16.toUInt32.toInt32), .unset, .unset, .unset, .unset, .unset, .unset, .unset, .unset, .unset]) rfl ?_
   refine XS.iloadN X43.here hx rfl (hb hby at_48) rfl ?_
   refine XS.sipush X43.here hx rfl (hb hby at_49) ?_
   refine XS.iand X43.here hx rfl (hb hby at_52) rfl ?_
   refine XS.i2c X43.here hx rfl (hb hby at_53) rfl ?_
   refine XS.istore X43.here hx rfl (hb hby at_54) rfl (l' := #[iv p0, iv p1, iv p2, iv p3, iv p4, rv b1, iv (p0 &&& (3 : Int32)), iv (p1 &&& (3 : Int32)), iv ((p2 &&& (255 : Int32)).toUInt32.toUInt16.toUInt32.toInt32), iv ((p3 &&& (255 : Int32)).toUInt32.toUInt16.toUInt32.toInt32), .unset, .unset, .unset, .unset, .unset, .unset, .unset, .unset]) rfl ?_
   refine XS.iload X43.here hx rfl (hb hby at_56) rfl ?_
   refine XS.sipush X43.here hx rfl (hb hby at_58) ?_
   refine XS.iand X43.here hx rfl (hb hby at_61) rfl ?_
   refine XS.i2c X43.here hx rfl (hb hby at_62) rfl ?_
   refine XS.istore X43.here hx rfl (hb hby at_63) rfl (l' := #[iv p0, iv p1, iv p2, iv p3, iv p4, rv b1, iv (p0 &&& (3 : Int32)), iv (p1 &&& (3 : Int32)), iv ((p2 &&& (255 : Int32)).toUInt32.toUInt16.toUInt32.toInt32), iv ((p3 &&& (255 : Int32)).toUInt32.toUInt16.toUInt32.toInt32), iv ((p4 &&& (255 : Int32)).toUInt32.toUInt16.toUInt32.toInt32), .unset, .unset, .unset, .unset, .unset, .unset, .unset]) rfl ?_
   exact kt)
  obtain ⟨c0, e_c0, hc0⟩ : ∃ c_, ((p2 &&& (255 : Int32)).toUInt32.toUInt16.toUInt32.toInt32) = c_ ∧ (¬ c_ < 0 ∧ ¬ (255 : Int32) < c_) := ⟨_, rfl, own_c8 _⟩
  rw [e_c0] at pre47
  obtain ⟨c1, e_c1, hc1⟩ : ∃ c_, ((p3 &&& (255 : Int32)).toUInt32.toUInt16.toUInt32.toInt32) = c_ ∧ (¬ c_ < 0 ∧ ¬ (255 : Int32) < c_) := ⟨_, rfl, own_c8 _⟩
  rw [e_c1] at pre47
  obtain ⟨c2, e_c2, hc2⟩ : ∃ c_, ((p4 &&& (255 : Int32)).toUInt32.toUInt16.toUInt32.toInt32) = c_ ∧ (¬ c_ < 0 ∧ ¬ (255 : Int32) < c_) := ⟨_, rfl, own_c8 _⟩
  rw [e_c2] at pre47
  obtain ⟨nn, e_nn, hnn⟩ : ∃ c_, (p1 &&& (3 : Int32)) = c_ ∧ (c_ = (0 : Int32) ∨ c_ = (1 : Int32) ∨ c_ = (2 : Int32) ∨ c_ = (3 : Int32)) := ⟨_, rfl, own_n03 _⟩
  rw [e_nn] at pre47
  obtain ⟨kk, e_kk, hkk⟩ : ∃ c_, (p0 &&& (3 : Int32)) = c_ ∧ (c_ = (0 : Int32) ∨ c_ = (1 : Int32) ∨ c_ = (2 : Int32) ∨ c_ = (3 : Int32)) := ⟨_, rfl, own_n03 _⟩
  rw [e_kk] at pre47
  have Mg509 : ∃ (T509 : State) (L509 : List Loc) (x509_L11 : Addr) (vm509 : Vm) (kx509 : Nat) (sgx : Addr) (tx : Addr) (ktx : ClassId) (vsx : List Value), Stand p l e room_1 (s.setVm vm509) m #[(.int p0), (.int p1), (.int p2), (.int p3), (.int p4)] below meth c T509 L509 7 16 ∧ Fr n0 L509 ∧ Keep h0 T509.heap [] ∧ CHr Z own_EL s.vm h0 vm509 T509.heap ∧ n0 ≤ T509.heap.size ∧ Sta Z T509.heap "java/lang/String" "COMPACT_STRINGS" "Z" (.int zC) ∧ Sta Z T509.heap "jdk/internal/util/Preconditions" "SIOOBE_FORMATTER" "Ljava/util/function/BiFunction;" fv ∧ Sta Z T509.heap "com/example/librowmap/librowmap/sql/Dialect" "POSTGRESQL" "Lcom/example/librowmap/librowmap/sql/Dialect;" (.ref wP) ∧ Exa Z T509.heap wP "com/example/librowmap/librowmap/sql/Dialect" ∧ Fld Z T509.heap wP "com/example/librowmap/librowmap/sql/Dialect" "textType" "Ljava/lang/String;" (.ref tywP) ∧ Exa Z T509.heap tywP "java/lang/String" ∧ Fld Z T509.heap tywP "java/lang/String" "value" "[B" (.ref twwP) ∧ Fld Z T509.heap tywP "java/lang/String" "coder" "B" (.int (0 : Int32)) ∧ Arv Z T509.heap twwP kwwP .byte (4 : Int32) [(.int (116 : Int32)), (.int (101 : Int32)), (.int (120 : Int32)), (.int (116 : Int32))] (.int (0 : Int32)) ∧ Sta Z T509.heap "com/example/librowmap/librowmap/sql/Dialect" "MARIADB" "Lcom/example/librowmap/librowmap/sql/Dialect;" (.ref wM) ∧ Exa Z T509.heap wM "com/example/librowmap/librowmap/sql/Dialect" ∧ Fld Z T509.heap wM "com/example/librowmap/librowmap/sql/Dialect" "textType" "Ljava/lang/String;" .null ∧ Sta Z T509.heap "com/example/librowmap/librowmap/sql/Dialect" "H2" "Lcom/example/librowmap/librowmap/sql/Dialect;" (.ref wH) ∧ Exa Z T509.heap wH "com/example/librowmap/librowmap/sql/Dialect" ∧ Fld Z T509.heap wH "com/example/librowmap/librowmap/sql/Dialect" "textType" "Ljava/lang/String;" (.ref tywH) ∧ Exa Z T509.heap tywH "java/lang/String" ∧ Fld Z T509.heap tywH "java/lang/String" "value" "[B" (.ref twwH) ∧ Fld Z T509.heap tywH "java/lang/String" "coder" "B" (.int (0 : Int32)) ∧ Arv Z T509.heap twwH kwwH .byte (7 : Int32) [(.int (86 : Int32)), (.int (65 : Int32)), (.int (82 : Int32)), (.int (67 : Int32)), (.int (72 : Int32)), (.int (65 : Int32)), (.int (82 : Int32))] (.int (0 : Int32)) ∧ Sta Z T509.heap "com/example/librowmap/librowmap/sql/Dialect" "SQL_SERVER" "Lcom/example/librowmap/librowmap/sql/Dialect;" (.ref wQ) ∧ Exa Z T509.heap wQ "com/example/librowmap/librowmap/sql/Dialect" ∧ Fld Z T509.heap wQ "com/example/librowmap/librowmap/sql/Dialect" "textType" "Ljava/lang/String;" .null ∧ kx509 ≤ T509.heap.size ∧ Safe Z own_EL vm509 T509.heap b1 ∧ Arv Z T509.heap b1 k1 (.object "com/example/librowmap/librowmap/sql/Dialect") (4 : Int32) [(.ref wP), (.ref wM), (.ref wH), (.ref wQ)] .null ∧ Z.Warmed39 (s.setVm vm509).vm ∧ (s.setVm vm509).vm.findClass "com/example/librowmap/librowmap/sql/DialectTextOfPinLaw" = some m.cls ∧ s.Since vm509 kx509 ∧ Exa Z T509.heap sgx "java/lang/String" ∧ Fld Z T509.heap sgx "java/lang/String" "value" "[B" (.ref tx) ∧ Fld Z T509.heap sgx "java/lang/String" "coder" "B" (.int (0 : Int32)) ∧ Arv Z T509.heap tx ktx .byte nn vsx (.int 0) ∧ (own_has vsx (own_cl nn c0 c1 c2)) ∧ x509_L11 = sgx ∧ (∀ t, Steps p.tables e below (T509.setTop (mkF m 169 #[iv p0, iv p1, iv p2, iv p3, iv p4, rv b1, iv kk, iv nn, iv c0, iv c1, iv c2, rv x509_L11, .unset, .unset, .unset, .unset, .unset, .unset] [])) t → Steps p.tables e below (s₁.setTop (entryFrame m #[(.int p0), (.int p1), (.int p2), (.int p3), (.int p4)] maxLocals)) t) := by
    have pre49 : ∀ t, Steps p.tables e below (T43.setTop (mkF m 67 #[iv p0, iv p1, iv p2, iv p3, iv p4, rv b1, iv kk, iv nn, iv c0, iv c1, iv c2, .unset, .unset, .unset, .unset, .unset, .unset, .unset] [(.int nn)])) t → Steps p.tables e below (s₁.setTop (entryFrame m #[(.int p0), (.int p1), (.int p2), (.int p3), (.int p4)] maxLocals)) t := fun t kt => pre47 t (by
     refine XS.iload X43.here hx rfl (hb hby at_65) rfl ?_
     exact kt)
    by_cases hc67_48 : nn = (0 : Int32)
    · have f50 := (Nat.le_trans (Nat.le_trans (Nat.le_trans (Nat.le_trans (Nat.le_trans Z0 E1.1) (Keep.of_wr W16).1) (Keep.of_wr W25).1) (Keep.of_wr W34).1) (Keep.of_wr W43).1)
      obtain ⟨T51, h51, X51, e51, E51, A51, D51, U51, st51⟩ := newO X43 hx hZ hown (own_g hw 12 rfl) (own_g hw 13 rfl) (own_g hw 14 rfl) e43 (g := (mkF m 70 #[iv p0, iv p1, iv p2, iv p3, iv p4, rv b1, iv kk, iv nn, iv c0, iv c1, iv c2, .unset, .unset, .unset, .unset, .unset, .unset, .unset] [])) rfl (hb hby at_70) (by decide) (by decide)
      obtain ⟨b51, g51⟩ : ∃ z, z = h43.size := ⟨_, rfl⟩
      rw [← g51] at A51 D51 U51 st51
      have f52 := ((((f14.wr W16).wr W25).wr W34).wr W43)
      have ne53 : wP ≠ b51 := Nat.ne_of_lt (Nat.lt_of_lt_of_le f52.lt (Nat.le_of_eq g51.symm))
      have f54 := (((((P_E_tywP.ext E1).wr W16).wr W25).wr W34).wr W43)
      have ne55 : tywP ≠ b51 := Nat.ne_of_lt (Nat.lt_of_lt_of_le f54.lt (Nat.le_of_eq g51.symm))
      have f56 := (((((P_V_twwP.ext E1).other W16 ne4).other W25 ne4).other W34 ne4).other W43 ne4)
      have ne57 : twwP ≠ b51 := Nat.ne_of_lt (Nat.lt_of_lt_of_le f56.lt (Nat.le_of_eq g51.symm))
      have f58 := (((f22.wr W25).wr W34).wr W43)
      have ne59 : wM ≠ b51 := Nat.ne_of_lt (Nat.lt_of_lt_of_le f58.lt (Nat.le_of_eq g51.symm))
      have f60 := ((f31.wr W34).wr W43)
      have ne61 : wH ≠ b51 := Nat.ne_of_lt (Nat.lt_of_lt_of_le f60.lt (Nat.le_of_eq g51.symm))
      have f62 := (((((P_E_tywH.ext E1).wr W16).wr W25).wr W34).wr W43)
      have ne63 : tywH ≠ b51 := Nat.ne_of_lt (Nat.lt_of_lt_of_le f62.lt (Nat.le_of_eq g51.symm))
      have f64 := (((((P_V_twwH.ext E1).other W16 ne8).other W25 ne8).other W34 ne8).other W43 ne8)
      have ne65 : twwH ≠ b51 := Nat.ne_of_lt (Nat.lt_of_lt_of_le f64.lt (Nat.le_of_eq g51.symm))
      have f66 := (f40.wr W43)
      have ne67 : wQ ≠ b51 := Nat.ne_of_lt (Nat.lt_of_lt_of_le f66.lt (Nat.le_of_eq g51.symm))
      have ne68 : b1 ≠ b51 := Nat.ne_of_lt (Nat.lt_of_lt_of_le V43.lt (Nat.le_of_eq g51.symm))
      have o51 : n0 ≤ b51 := Nat.le_trans f50 (Nat.le_of_eq g51.symm)
      have z51 : h0.size ≤ b51 := Nat.le_trans K46.1 (Nat.le_of_eq g51.symm)
      have CH69 : CHr Z own_EL s.vm h0 s.vm h51 := CH44.trans (CHr.ext E51 CH44.1)
      have Yb70 : Safe Z own_EL s.vm h51 b51 := Safe.ext E51 CH44.1 (Safe.new (Nat.le_of_eq g51.symm))
      have K51 : Keep h0 h51 [] := K46.ext E51
      have f71 : Fld Z h51 b51 "java/lang/String" "coder" "B" (.int (0 : Int32)) := D51 (Or.inr (own_g hw 39 rfl)) (ty := .byte) (by decide)
      have f72 : Fld Z h51 b51 "java/lang/String" "value" "[B" .null := D51 (Or.inr (own_g hw 41 rfl)) (ty := (.array .byte)) (by decide)
      have f73 := (Nat.le_trans f50 E51.1)
      obtain ⟨T74, h74, k74, X74, e74, E74, A74, st74⟩ := newP X51 hx hZ (own_g hw 15 rfl) e51 (g := (mkF m 75 #[iv p0, iv p1, iv p2, iv p3, iv p4, rv b1, iv kk, iv nn, iv c0, iv c1, iv c2, .unset, .unset, .unset, .unset, .unset, .unset, .unset] [(.int (0 : Int32)), (.ref b51), (.ref b51)])) rfl (hb hby at_75) rfl (by decide) (cap := 0) (by decide) (by decide) (by decide) (by decide)
      obtain ⟨b74, g74⟩ : ∃ z, z = h51.size := ⟨_, rfl⟩
      rw [← g74] at A74 st74
      have f75 := (f52.ext E51)
      have ne76 : wP ≠ b74 := Nat.ne_of_lt (Nat.lt_of_lt_of_le f75.lt (Nat.le_of_eq g74.symm))
      have f77 := (f54.ext E51)
      have ne78 : tywP ≠ b74 := Nat.ne_of_lt (Nat.lt_of_lt_of_le f77.lt (Nat.le_of_eq g74.symm))
      have f79 := (f56.ext E51)
      have ne80 : twwP ≠ b74 := Nat.ne_of_lt (Nat.lt_of_lt_of_le f79.lt (Nat.le_of_eq g74.symm))
      have f81 := (f58.ext E51)
      have ne82 : wM ≠ b74 := Nat.ne_of_lt (Nat.lt_of_lt_of_le f81.lt (Nat.le_of_eq g74.symm))
      have f83 := (f60.ext E51)
      have ne84 : wH ≠ b74 := Nat.ne_of_lt (Nat.lt_of_lt_of_le f83.lt (Nat.le_of_eq g74.symm))
      have f85 := (f62.ext E51)
      have ne86 : tywH ≠ b74 := Nat.ne_of_lt (Nat.lt_of_lt_of_le f85.lt (Nat.le_of_eq g74.symm))
      have f87 := (f64.ext E51)
      have ne88 : twwH ≠ b74 := Nat.ne_of_lt (Nat.lt_of_lt_of_le f87.lt (Nat.le_of_eq g74.symm))
      have f89 := (f66.ext E51)
      have ne90 : wQ ≠ b74 := Nat.ne_of_lt (Nat.lt_of_lt_of_le f89.lt (Nat.le_of_eq g74.symm))
      have f91 := (V43.ext E51)
      have ne92 : b1 ≠ b74 := Nat.ne_of_lt (Nat.lt_of_lt_of_le f91.lt (Nat.le_of_eq g74.symm))
      have ne93 : b51 ≠ b74 := Nat.ne_of_lt (Nat.lt_of_lt_of_le A51.lt (Nat.le_of_eq g74.symm))
      have o74 : n0 ≤ b74 := Nat.le_trans f73 (Nat.le_of_eq g74.symm)
      have z74 : h0.size ≤ b74 := Nat.le_trans K51.1 (Nat.le_of_eq g74.symm)
      have CH94 : CHr Z own_EL s.vm h0 s.vm h74 := CH69.trans (CHr.ext E74 CH69.1)
      have Yb95 : Safe Z own_EL s.vm h74 b74 := Safe.ext E74 CH69.1 (Safe.new (Nat.le_of_eq g74.symm))
      have K74 : Keep h0 h74 [] := K51.ext E74
      have V74 : Arv Z h74 b74 k74 .char (0 : Int32) [] (.int (0 : Int32)) := Arv.new A74 (by decide)
      have pre96 : ∀ t, Steps p.tables e below (T74.setTop (mkF m 77 #[iv p0, iv p1, iv p2, iv p3, iv p4, rv b1, iv kk, iv nn, iv c0, iv c1, iv c2, .unset, .unset, .unset, .unset, .unset, .unset, .unset] [(.ref b74), (.ref b51), (.ref b51)])) t → Steps p.tables e below (s₁.setTop (entryFrame m #[(.int p0), (.int p1), (.int p2), (.int p3), (.int p4)] maxLocals)) t := fun t kt => pre49 t (by
       refine XS.ifNo X43.here hx rfl (hb hby at_67) rfl ((if0 _ _).trans (teq hc67_48).2) ?_
       refine st51 _ ?_
       refine XS.dup X51.here hx rfl (hb hby at_73) rfl rfl ?_
       refine XS.iconst X51.here hx rfl (hb hby at_74) ?_
       show Steps _ _ _ (T51.setTop (mkF m 75 #[iv p0, iv p1, iv p2, iv p3, iv p4, rv b1, iv kk, iv nn, iv c0, iv c1, iv c2, .unset, .unset, .unset, .unset, .unset, .unset, .unset] [(.int (0 : Int32)), (.ref b51), (.ref b51)])) _
       refine st74 _ ?_
       exact kt)
      have f97 := (A51.ext E74)
      have f98 := (f72.ext E74)
      have f99 := (f71.ext E74)
      have f100 := (Nat.le_trans f73 E74.1)
      have f102 := (Nat.le_trans (Nat.le_trans (Nat.le_trans (Nat.le_trans (Nat.le_trans (Nat.le_trans (Nat.le_trans (Nat.le_refl h0.size) E1.1) (Keep.of_wr W16).1) (Keep.of_wr W25).1) (Keep.of_wr W34).1) (Keep.of_wr W43).1) E51.1) E74.1)
      have f103 : Safe Z own_EL s.vm h74 b1 := (Safe.ext E74 CH69.1 (Safe.ext E51 CH44.1 (Safe.wr W43 f41 CH35.1 f41)))
      have f104 := (f91.ext E74)
      have f105 : Safe Z own_EL s.vm h74 b51 := (Safe.ext E74 CH69.1 Yb70)
      obtain ⟨_, _, ⟨T101, L101, k101, n101⟩, -, Xw101, hSw101, gr101, ⟨Lc101, hQ101, l101, y101, z101, CHq101⟩, st101⟩ := X74.specialBackS hx (y := own_y34) rfl hown (mvT hZ (own_g hw 16 rfl)) (mvT hZ (own_g hw 17 rfl)) (mvT hZ (own_g hw 18 rfl)) (by decide) (backOfSH (W := 1) (rmI1_0 l Z a0 hw [] b51 b74 k74 h74 n0 f100 f97 f98 f99 V74 o51) hZ (own_g hw 18 rfl) (own_g hw 14 rfl) (by decide) (by decide) hEL CH94.1) (g := (mkF m 77 #[iv p0, iv p1, iv p2, iv p3, iv p4, rv b1, iv kk, iv nn, iv c0, iv c1, iv c2, .unset, .unset, .unset, .unset, .unset, .unset, .unset] [(.ref b74), (.ref b51), (.ref b51)])) rfl (by rw [hml]; rfl) (Steps.refl _) (a := b51) (argsL := [(.ref b74)]) (rest := [(.ref b51)]) (lenOf pd___C_V rfl) rfl (by show 2 * 0 + _ ≤ _; exact Nat.le_of_eq rfl) (hb hby at_77) (fun _ _ => ⟨rfl, e74, (by decide : 3 + 4 ≤ _), (by decide : 8 + 8 ≤ _)⟩)
      dsimp only [Pt.U, Pt.locs, Pt.cells, Pt.slots] at Xw101 hSw101 gr101 l101 y101 z101 st101 hQ101 CHq101
      subst l101 y101 z101
      obtain ⟨X101, hS101, hZ101, hown101⟩ := rebS hS0 (by rw [e74]; exact f102) Xw101 hSw101 gr101 hZ hown
      have f106 := (f75.ext E74)
      have f107 := (f77.ext E74)
      have f108 := (f79.ext E74)
      have f109 := (f81.ext E74)
      have f110 := (f83.ext E74)
      have f111 := (f85.ext E74)
      have f112 := (f87.ext E74)
      have f113 := (f89.ext E74)
      obtain ⟨t_101, kt_101, rfl, N101q, K101, f114, f115, f116, f117, f118⟩ := hQ101
      have KK101 : Keep h0 T101.heap [] := Keep.trans K74 K101 (allS (Or.inr z51) all0)
      have CH119 : CHr Z own_EL s.vm h0 T101.vm T101.heap := CH94.trans CHq101
      have Yr120 : Safe Z own_EL T101.vm T101.heap b1 := CHr.safe CHq101 f104.lt f103
      have Yr121 : Safe Z own_EL T101.vm T101.heap b51 := CHr.safe CHq101 f97.lt f105
      have Yr122 : Safe Z own_EL T101.vm T101.heap b74 := CHr.safe CHq101 V74.lt Yb95
      have N101 := Fr.app N45 N101q
      have pre123 : ∀ t, Steps p.tables e below (T101.setTop (mkF m 169 #[iv p0, iv p1, iv p2, iv p3, iv p4, rv b1, iv kk, iv nn, iv c0, iv c1, iv c2, rv b51, .unset, .unset, .unset, .unset, .unset, .unset] [])) t → Steps p.tables e below (s₁.setTop (entryFrame m #[(.int p0), (.int p1), (.int p2), (.int p3), (.int p4)] maxLocals)) t := fun t kt => pre96 t (by
       show Steps _ _ _ (T74.setTop (mkF m 77 #[iv p0, iv p1, iv p2, iv p3, iv p4, rv b1, iv kk, iv nn, iv c0, iv c1, iv c2, .unset, .unset, .unset, .unset, .unset, .unset, .unset] [(.ref b74), (.ref b51), (.ref b51)])) _
       refine st101.trans ?_
       refine XS.astore X101.here hx rfl (hb hby at_80) rfl rfl (l' := #[iv p0, iv p1, iv p2, iv p3, iv p4, rv b1, iv kk, iv nn, iv c0, iv c1, iv c2, rv b51, .unset, .unset, .unset, .unset, .unset, .unset]) rfl ?_
       refine XS.goto X101.here hx rfl (pc0 := 82) (pc' := 169) rfl (hb hby at_82) (by decide) (by decide) ?_
       exact kt)
      have f124 := (Nat.le_trans f100 K101.1)
      have f125 := (own_staKeep (((((((P_S_String_COMPACT_STRINGS.ext E1).wr W16).wr W25).wr W34).wr W43).ext E51).ext E74) K101 (nsS f97.nostat ns0))
      have f126 := (own_staKeep (((((((P_S_Preconditions_SIOOBE_FORMATTER.ext E1).wr W16).wr W25).wr W34).wr W43).ext E51).ext E74) K101 (nsS f97.nostat ns0))
      have f127 := (own_staKeep ((((((f12.wr W16).wr W25).wr W34).wr W43).ext E51).ext E74) K101 (nsS f97.nostat ns0))
      have f128 := (f106.keep K101)
      have f129 := ((((((((P_F_wP_Dialect_textType.ext E1).other W16 (Or.inl ne2)).other W25 (Or.inl ne2)).other W34 (Or.inl ne2)).other W43 (Or.inl ne2)).ext E51).ext E74).keep K101 (ninS ne53 nin0))
      have f130 := (f107.keep K101)
      have f131 := ((((((((P_F_tywP_String_value.ext E1).other W16 (Or.inl ne3)).other W25 (Or.inl ne3)).other W34 (Or.inl ne3)).other W43 (Or.inl ne3)).ext E51).ext E74).keep K101 (ninS ne55 nin0))
      have f132 := ((((((((P_F_tywP_String_coder.ext E1).other W16 (Or.inl ne3)).other W25 (Or.inl ne3)).other W34 (Or.inl ne3)).other W43 (Or.inl ne3)).ext E51).ext E74).keep K101 (ninS ne55 nin0))
      have f133 := (f108.keep K101 (ninS ne57 nin0))
      have f134 := (own_staKeep (((((f20.wr W25).wr W34).wr W43).ext E51).ext E74) K101 (nsS f97.nostat ns0))
      have f135 := (f109.keep K101)
      have f136 := ((((((((P_F_wM_Dialect_textType.ext E1).other W16 (Or.inl ne5)).other W25 (Or.inl ne5)).other W34 (Or.inl ne5)).other W43 (Or.inl ne5)).ext E51).ext E74).keep K101 (ninS ne59 nin0))
      have f137 := (own_staKeep ((((f29.wr W34).wr W43).ext E51).ext E74) K101 (nsS f97.nostat ns0))
      have f138 := (f110.keep K101)
      have f139 := ((((((((P_F_wH_Dialect_textType.ext E1).other W16 (Or.inl ne6)).other W25 (Or.inl ne6)).other W34 (Or.inl ne6)).other W43 (Or.inl ne6)).ext E51).ext E74).keep K101 (ninS ne61 nin0))
      have f140 := (f111.keep K101)
      have f141 := ((((((((P_F_tywH_String_value.ext E1).other W16 (Or.inl ne7)).other W25 (Or.inl ne7)).other W34 (Or.inl ne7)).other W43 (Or.inl ne7)).ext E51).ext E74).keep K101 (ninS ne63 nin0))
      have f142 := ((((((((P_F_tywH_String_coder.ext E1).other W16 (Or.inl ne7)).other W25 (Or.inl ne7)).other W34 (Or.inl ne7)).other W43 (Or.inl ne7)).ext E51).ext E74).keep K101 (ninS ne63 nin0))
      have f143 := (f112.keep K101 (ninS ne65 nin0))
      have f144 := (own_staKeep (((f38.wr W43).ext E51).ext E74) K101 (nsS f97.nostat ns0))
      have f145 := (f113.keep K101)
      have f146 := ((((((((P_F_wQ_Dialect_textType.ext E1).other W16 (Or.inl ne9)).other W25 (Or.inl ne9)).other W34 (Or.inl ne9)).other W43 (Or.inl ne9)).ext E51).ext E74).keep K101 (ninS ne67 nin0))
      have f147 := (f104.keep K101 (ninS ne68 nin0))
      exact ⟨T101, _, b51, T101.vm, T101.heap.size, b51, t_101, kt_101, [], X101.more (by decide) (by decide), N101, KK101, CH119, f124, f125, f126, f127, f128, f129, f130, f131, f132, f133, f134, f135, f136, f137, f138, f139, f140, f141, f142, f143, f144, f145, f146, (Nat.le_refl _), Yr120, f147, hZ101, hown101, hS101, f114, f115, f116, (by rw [hc67_48]; exact f118), (own_clh0 hc67_48), rfl, pre123⟩
    · have pre149 : ∀ t, Steps p.tables e below (T43.setTop (mkF m 88 #[iv p0, iv p1, iv p2, iv p3, iv p4, rv b1, iv kk, iv nn, iv c0, iv c1, iv c2, .unset, .unset, .unset, .unset, .unset, .unset, .unset] [(.int (1 : Int32)), (.int nn)])) t → Steps p.tables e below (s₁.setTop (entryFrame m #[(.int p0), (.int p1), (.int p2), (.int p3), (.int p4)] maxLocals)) t := fun t kt => pre49 t (by
       refine XS.ifYes X43.here hx rfl (pc0 := 67) (pc' := 85) rfl (hb hby at_67) rfl ((if0 _ _).trans (feq hc67_48).2) (by decide) (by decide) ?_
       refine XS.iload X43.here hx rfl (hb hby at_85) rfl ?_
       refine XS.iconst X43.here hx rfl (hb hby at_87) ?_
       exact kt)
      by_cases hc88_148 : nn = (1 : Int32)
      · have f150 := (Nat.le_trans (Nat.le_trans (Nat.le_trans (Nat.le_trans (Nat.le_trans Z0 E1.1) (Keep.of_wr W16).1) (Keep.of_wr W25).1) (Keep.of_wr W34).1) (Keep.of_wr W43).1)
        obtain ⟨T151, h151, X151, e151, E151, A151, D151, U151, st151⟩ := newO X43 hx hZ hown (own_g hw 12 rfl) (own_g hw 13 rfl) (own_g hw 14 rfl) e43 (g := (mkF m 91 #[iv p0, iv p1, iv p2, iv p3, iv p4, rv b1, iv kk, iv nn, iv c0, iv c1, iv c2, .unset, .unset, .unset, .unset, .unset, .unset, .unset] [])) rfl (hb hby at_91) (by decide) (by decide)
        obtain ⟨b151, g151⟩ : ∃ z, z = h43.size := ⟨_, rfl⟩
        rw [← g151] at A151 D151 U151 st151
        have f152 := ((((f14.wr W16).wr W25).wr W34).wr W43)
        have ne153 : wP ≠ b151 := Nat.ne_of_lt (Nat.lt_of_lt_of_le f152.lt (Nat.le_of_eq g151.symm))
        have f154 := (((((P_E_tywP.ext E1).wr W16).wr W25).wr W34).wr W43)
        have ne155 : tywP ≠ b151 := Nat.ne_of_lt (Nat.lt_of_lt_of_le f154.lt (Nat.le_of_eq g151.symm))
        have f156 := (((((P_V_twwP.ext E1).other W16 ne4).other W25 ne4).other W34 ne4).other W43 ne4)
        have ne157 : twwP ≠ b151 := Nat.ne_of_lt (Nat.lt_of_lt_of_le f156.lt (Nat.le_of_eq g151.symm))
        have f158 := (((f22.wr W25).wr W34).wr W43)
        have ne159 : wM ≠ b151 := Nat.ne_of_lt (Nat.lt_of_lt_of_le f158.lt (Nat.le_of_eq g151.symm))
        have f160 := ((f31.wr W34).wr W43)
        have ne161 : wH ≠ b151 := Nat.ne_of_lt (Nat.lt_of_lt_of_le f160.lt (Nat.le_of_eq g151.symm))
        have f162 := (((((P_E_tywH.ext E1).wr W16).wr W25).wr W34).wr W43)
        have ne163 : tywH ≠ b151 := Nat.ne_of_lt (Nat.lt_of_lt_of_le f162.lt (Nat.le_of_eq g151.symm))
        have f164 := (((((P_V_twwH.ext E1).other W16 ne8).other W25 ne8).other W34 ne8).other W43 ne8)
        have ne165 : twwH ≠ b151 := Nat.ne_of_lt (Nat.lt_of_lt_of_le f164.lt (Nat.le_of_eq g151.symm))
        have f166 := (f40.wr W43)
        have ne167 : wQ ≠ b151 := Nat.ne_of_lt (Nat.lt_of_lt_of_le f166.lt (Nat.le_of_eq g151.symm))
        have ne168 : b1 ≠ b151 := Nat.ne_of_lt (Nat.lt_of_lt_of_le V43.lt (Nat.le_of_eq g151.symm))
        have o151 : n0 ≤ b151 := Nat.le_trans f150 (Nat.le_of_eq g151.symm)
        have z151 : h0.size ≤ b151 := Nat.le_trans K46.1 (Nat.le_of_eq g151.symm)
        have CH169 : CHr Z own_EL s.vm h0 s.vm h151 := CH44.trans (CHr.ext E151 CH44.1)
        have Yb170 : Safe Z own_EL s.vm h151 b151 := Safe.ext E151 CH44.1 (Safe.new (Nat.le_of_eq g151.symm))
        have K151 : Keep h0 h151 [] := K46.ext E151
        have f171 : Fld Z h151 b151 "java/lang/String" "coder" "B" (.int (0 : Int32)) := D151 (Or.inr (own_g hw 39 rfl)) (ty := .byte) (by decide)
        have f172 : Fld Z h151 b151 "java/lang/String" "value" "[B" .null := D151 (Or.inr (own_g hw 41 rfl)) (ty := (.array .byte)) (by decide)
        have f173 := (Nat.le_trans f150 E151.1)
        obtain ⟨T174, h174, k174, X174, e174, E174, A174, st174⟩ := newP X151 hx hZ (own_g hw 15 rfl) e151 (g := (mkF m 96 #[iv p0, iv p1, iv p2, iv p3, iv p4, rv b1, iv kk, iv nn, iv c0, iv c1, iv c2, .unset, .unset, .unset, .unset, .unset, .unset, .unset] [(.int (1 : Int32)), (.ref b151), (.ref b151)])) rfl (hb hby at_96) rfl (by decide) (cap := 1) (by decide) (by decide) (by decide) (by decide)
        obtain ⟨b174, g174⟩ : ∃ z, z = h151.size := ⟨_, rfl⟩
        rw [← g174] at A174 st174
        have f175 := (f152.ext E151)
        have ne176 : wP ≠ b174 := Nat.ne_of_lt (Nat.lt_of_lt_of_le f175.lt (Nat.le_of_eq g174.symm))
        have f177 := (f154.ext E151)
        have ne178 : tywP ≠ b174 := Nat.ne_of_lt (Nat.lt_of_lt_of_le f177.lt (Nat.le_of_eq g174.symm))
        have f179 := (f156.ext E151)
        have ne180 : twwP ≠ b174 := Nat.ne_of_lt (Nat.lt_of_lt_of_le f179.lt (Nat.le_of_eq g174.symm))
        have f181 := (f158.ext E151)
        have ne182 : wM ≠ b174 := Nat.ne_of_lt (Nat.lt_of_lt_of_le f181.lt (Nat.le_of_eq g174.symm))
        have f183 := (f160.ext E151)
        have ne184 : wH ≠ b174 := Nat.ne_of_lt (Nat.lt_of_lt_of_le f183.lt (Nat.le_of_eq g174.symm))
        have f185 := (f162.ext E151)
        have ne186 : tywH ≠ b174 := Nat.ne_of_lt (Nat.lt_of_lt_of_le f185.lt (Nat.le_of_eq g174.symm))
        have f187 := (f164.ext E151)
        have ne188 : twwH ≠ b174 := Nat.ne_of_lt (Nat.lt_of_lt_of_le f187.lt (Nat.le_of_eq g174.symm))
        have f189 := (f166.ext E151)
        have ne190 : wQ ≠ b174 := Nat.ne_of_lt (Nat.lt_of_lt_of_le f189.lt (Nat.le_of_eq g174.symm))
        have f191 := (V43.ext E151)
        have ne192 : b1 ≠ b174 := Nat.ne_of_lt (Nat.lt_of_lt_of_le f191.lt (Nat.le_of_eq g174.symm))
        have ne193 : b151 ≠ b174 := Nat.ne_of_lt (Nat.lt_of_lt_of_le A151.lt (Nat.le_of_eq g174.symm))
        have o174 : n0 ≤ b174 := Nat.le_trans f173 (Nat.le_of_eq g174.symm)
        have z174 : h0.size ≤ b174 := Nat.le_trans K151.1 (Nat.le_of_eq g174.symm)
        have CH194 : CHr Z own_EL s.vm h0 s.vm h174 := CH169.trans (CHr.ext E174 CH169.1)
        have Yb195 : Safe Z own_EL s.vm h174 b174 := Safe.ext E174 CH169.1 (Safe.new (Nat.le_of_eq g174.symm))
        have K174 : Keep h0 h174 [] := K151.ext E174
        have V174 : Arv Z h174 b174 k174 .char (1 : Int32) [(.int (0 : Int32))] (.int (0 : Int32)) := (Arv.new A174 (by decide)).pad (pad_rep [] (.int (0 : Int32)) 1)
        obtain ⟨cl196, Ar196, qq196, S196, N196_, H196, G196⟩ := id V174
        have hin196 : ¬ ((0 : Int32) < 0 ∨ cl196.slots.size ≤ ((0 : Int32)).toNatClampNeg) := inb_of S196 ⟨by decide, by decide⟩
        obtain ⟨T197, h197, X197, e197, W197, st197⟩ := stC X174 hx hZ e174 Ar196 (j := (0 : Int32)) hin196 (g := (mkF m 102 #[iv p0, iv p1, iv p2, iv p3, iv p4, rv b1, iv kk, iv nn, iv c0, iv c1, iv c2, .unset, .unset, .unset, .unset, .unset, .unset, .unset] [(.int c0), (.int (0 : Int32)), (.ref b174), (.ref b174), (.ref b151), (.ref b151)])) rfl rfl (hb hby at_102)
        have CH198 : CHr Z own_EL s.vm h0 s.vm h197 := CH194.trans (CHr.wr W197 Yb195 CH194.1)
        have V197 : Arv Z h197 b174 k174 .char (1 : Int32) [(.int c0)] (.int (0 : Int32)) := by have q_ := Arv.set Ar196 qq196 S196 N196_ H196 G196 (fits_nar_char _) W197 0 rfl (Nat.le_of_ble_eq_true rfl); rw [own_nc8 hc0] at q_; exact q_
        have N199 := Fr.snoc X197 N45 o174
        have K200 : Keep h0 h197 [] := K174.wr W197 (Or.inr z174)
        have pre201 : ∀ t, Steps p.tables e below (T197.setTop (mkF m 103 #[iv p0, iv p1, iv p2, iv p3, iv p4, rv b1, iv kk, iv nn, iv c0, iv c1, iv c2, .unset, .unset, .unset, .unset, .unset, .unset, .unset] [(.ref b174), (.ref b151), (.ref b151)])) t → Steps p.tables e below (s₁.setTop (entryFrame m #[(.int p0), (.int p1), (.int p2), (.int p3), (.int p4)] maxLocals)) t := fun t kt => pre149 t (by
         refine XS.icmpNo X43.here hx rfl (hb hby at_88) rfl (teq hc88_148).2 ?_
         refine st151 _ ?_
         refine XS.dup X151.here hx rfl (hb hby at_94) rfl rfl ?_
         refine XS.iconst X151.here hx rfl (hb hby at_95) ?_
         refine st174 _ ?_
         refine XS.dup X174.here hx rfl (hb hby at_98) rfl rfl ?_
         refine XS.iconst X174.here hx rfl (hb hby at_99) ?_
         refine XS.iload X174.here hx rfl (hb hby at_100) rfl ?_
         refine st197 _ ?_
         exact kt)
        have f202 := ((A151.ext E174).wr W197)
        have f203 := ((f172.ext E174).other W197 (Or.inl ne193))
        have f204 := ((f171.ext E174).other W197 (Or.inl ne193))
        have f205 := ((((((((P_S_String_COMPACT_STRINGS.ext E1).wr W16).wr W25).wr W34).wr W43).ext E151).ext E174).wr W197)
        have f206 := (Nat.le_trans (Nat.le_trans f173 E174.1) (Keep.of_wr W197).1)
        obtain ⟨_, _, ⟨T207, L207, k207, n207⟩, -, X207, ⟨Lc207, hQ207, l207, y207, z207⟩, st207⟩ := X197.specialBack hx (y := own_y34) rfl hown (mvT hZ (own_g hw 16 rfl)) (mvT hZ (own_g hw 17 rfl)) (mvT hZ (own_g hw 18 rfl)) (by decide) (backOf (W := 1) (rmI1_1 l Z a0 hw [] b151 b174 k174 c0 zC h197 n0 f206 f202 f203 f204 V197 ne193 hc0 f205 hz o151) hZ (own_g hw 18 rfl) (own_g hw 14 rfl) (by decide) (by decide)) (g := (mkF m 103 #[iv p0, iv p1, iv p2, iv p3, iv p4, rv b1, iv kk, iv nn, iv c0, iv c1, iv c2, .unset, .unset, .unset, .unset, .unset, .unset, .unset] [(.ref b174), (.ref b151), (.ref b151)])) rfl (by rw [hml]; rfl) (Steps.refl _) (a := b151) (argsL := [(.ref b174)]) (rest := [(.ref b151)]) (lenOf pd___C_V rfl) rfl (by show 2 * 0 + _ ≤ _; exact Nat.le_of_eq rfl) (hb hby at_103) (fun _ _ => ⟨rfl, e197, (by decide : 3 + 1 ≤ _), (by decide : 9 + 1 ≤ _)⟩)
        dsimp only [Pt.U, Pt.locs, Pt.cells, Pt.slots] at X207 l207 y207 z207 st207 hQ207
        subst l207 y207 z207
        have f208 := ((f175.ext E174).wr W197)
        have f209 := ((f177.ext E174).wr W197)
        have f210 := ((f179.ext E174).other W197 ne180)
        have f211 := ((f181.ext E174).wr W197)
        have f212 := ((f183.ext E174).wr W197)
        have f213 := ((f185.ext E174).wr W197)
        have f214 := ((f187.ext E174).other W197 ne188)
        have f215 := ((f189.ext E174).wr W197)
        have f216 := ((f191.ext E174).other W197 ne192)
        have f217 : Safe Z own_EL s.vm h197 b151 := (Safe.wr W197 Yb195 CH194.1 (Safe.ext E174 CH169.1 Yb170))
        obtain ⟨t_207, kt_207, rfl, N207q, K207, sx207_0, f218, f219, f220, f221, f222⟩ := hQ207
        have ot_207 : n0 ≤ t_207 := Nat.le_trans f206 sx207_0
        have zt_207 : h0.size ≤ t_207 := Nat.le_trans K200.1 sx207_0
        have ne223 : wP ≠ t_207 := Nat.ne_of_lt (Nat.lt_of_lt_of_le f208.lt sx207_0)
        have ne224 : tywP ≠ t_207 := Nat.ne_of_lt (Nat.lt_of_lt_of_le f209.lt sx207_0)
        have ne225 : twwP ≠ t_207 := Nat.ne_of_lt (Nat.lt_of_lt_of_le f210.lt sx207_0)
        have ne226 : wM ≠ t_207 := Nat.ne_of_lt (Nat.lt_of_lt_of_le f211.lt sx207_0)
        have ne227 : wH ≠ t_207 := Nat.ne_of_lt (Nat.lt_of_lt_of_le f212.lt sx207_0)
        have ne228 : tywH ≠ t_207 := Nat.ne_of_lt (Nat.lt_of_lt_of_le f213.lt sx207_0)
        have ne229 : twwH ≠ t_207 := Nat.ne_of_lt (Nat.lt_of_lt_of_le f214.lt sx207_0)
        have ne230 : wQ ≠ t_207 := Nat.ne_of_lt (Nat.lt_of_lt_of_le f215.lt sx207_0)
        have ne231 : b1 ≠ t_207 := Nat.ne_of_lt (Nat.lt_of_lt_of_le f216.lt sx207_0)
        have ne232 : b151 ≠ t_207 := Nat.ne_of_lt (Nat.lt_of_lt_of_le f202.lt sx207_0)
        have ne233 : b174 ≠ t_207 := Nat.ne_of_lt (Nat.lt_of_lt_of_le V197.lt sx207_0)
        have Yn234 : Safe Z own_EL s.vm h197 t_207 := Safe.new sx207_0
        have KK207 : Keep h0 T207.heap [] := Keep.trans K200 K207 (allS (Or.inr z151) all0)
        have CH235 : CHr Z own_EL s.vm h0 s.vm T207.heap := CH198.trans (CHr.keep K207 (sfS f217 sf0) CH198.1)
        have N207 := Fr.app N199 N207q
        have pre236 : ∀ t, Steps p.tables e below (T207.setTop (mkF m 169 #[iv p0, iv p1, iv p2, iv p3, iv p4, rv b1, iv kk, iv nn, iv c0, iv c1, iv c2, rv b151, .unset, .unset, .unset, .unset, .unset, .unset] [])) t → Steps p.tables e below (s₁.setTop (entryFrame m #[(.int p0), (.int p1), (.int p2), (.int p3), (.int p4)] maxLocals)) t := fun t kt => pre201 t (by
         show Steps _ _ _ (T197.setTop (mkF m 103 #[iv p0, iv p1, iv p2, iv p3, iv p4, rv b1, iv kk, iv nn, iv c0, iv c1, iv c2, .unset, .unset, .unset, .unset, .unset, .unset, .unset] [(.ref b174), (.ref b151), (.ref b151)])) _
         refine st207.trans ?_
         refine XS.astore X207.here hx rfl (hb hby at_106) rfl rfl (l' := #[iv p0, iv p1, iv p2, iv p3, iv p4, rv b1, iv kk, iv nn, iv c0, iv c1, iv c2, rv b151, .unset, .unset, .unset, .unset, .unset, .unset]) rfl ?_
         refine XS.goto X207.here hx rfl (pc0 := 108) (pc' := 169) rfl (hb hby at_108) (by decide) (by decide) ?_
         exact kt)
        have f237 := (Nat.le_trans f206 K207.1)
        have f238 := (own_staKeep f205 K207 (nsS f202.nostat ns0))
        have f239 := (own_staKeep ((((((((P_S_Preconditions_SIOOBE_FORMATTER.ext E1).wr W16).wr W25).wr W34).wr W43).ext E151).ext E174).wr W197) K207 (nsS f202.nostat ns0))
        have f240 := (own_staKeep (((((((f12.wr W16).wr W25).wr W34).wr W43).ext E151).ext E174).wr W197) K207 (nsS f202.nostat ns0))
        have f241 := (f208.keep K207)
        have f242 := (((((((((P_F_wP_Dialect_textType.ext E1).other W16 (Or.inl ne2)).other W25 (Or.inl ne2)).other W34 (Or.inl ne2)).other W43 (Or.inl ne2)).ext E151).ext E174).other W197 (Or.inl ne176)).keep K207 (ninS ne153 nin0))
        have f243 := (f209.keep K207)
        have f244 := (((((((((P_F_tywP_String_value.ext E1).other W16 (Or.inl ne3)).other W25 (Or.inl ne3)).other W34 (Or.inl ne3)).other W43 (Or.inl ne3)).ext E151).ext E174).other W197 (Or.inl ne178)).keep K207 (ninS ne155 nin0))
        have f245 := (((((((((P_F_tywP_String_coder.ext E1).other W16 (Or.inl ne3)).other W25 (Or.inl ne3)).other W34 (Or.inl ne3)).other W43 (Or.inl ne3)).ext E151).ext E174).other W197 (Or.inl ne178)).keep K207 (ninS ne155 nin0))
        have f246 := (f210.keep K207 (ninS ne157 nin0))
        have f247 := (own_staKeep ((((((f20.wr W25).wr W34).wr W43).ext E151).ext E174).wr W197) K207 (nsS f202.nostat ns0))
        have f248 := (f211.keep K207)
        have f249 := (((((((((P_F_wM_Dialect_textType.ext E1).other W16 (Or.inl ne5)).other W25 (Or.inl ne5)).other W34 (Or.inl ne5)).other W43 (Or.inl ne5)).ext E151).ext E174).other W197 (Or.inl ne182)).keep K207 (ninS ne159 nin0))
        have f250 := (own_staKeep (((((f29.wr W34).wr W43).ext E151).ext E174).wr W197) K207 (nsS f202.nostat ns0))
        have f251 := (f212.keep K207)
        have f252 := (((((((((P_F_wH_Dialect_textType.ext E1).other W16 (Or.inl ne6)).other W25 (Or.inl ne6)).other W34 (Or.inl ne6)).other W43 (Or.inl ne6)).ext E151).ext E174).other W197 (Or.inl ne184)).keep K207 (ninS ne161 nin0))
        have f253 := (f213.keep K207)
        have f254 := (((((((((P_F_tywH_String_value.ext E1).other W16 (Or.inl ne7)).other W25 (Or.inl ne7)).other W34 (Or.inl ne7)).other W43 (Or.inl ne7)).ext E151).ext E174).other W197 (Or.inl ne186)).keep K207 (ninS ne163 nin0))
        have f255 := (((((((((P_F_tywH_String_coder.ext E1).other W16 (Or.inl ne7)).other W25 (Or.inl ne7)).other W34 (Or.inl ne7)).other W43 (Or.inl ne7)).ext E151).ext E174).other W197 (Or.inl ne186)).keep K207 (ninS ne163 nin0))
        have f256 := (f214.keep K207 (ninS ne165 nin0))
        have f257 := (own_staKeep ((((f38.wr W43).ext E151).ext E174).wr W197) K207 (nsS f202.nostat ns0))
        have f258 := (f215.keep K207)
        have f259 := (((((((((P_F_wQ_Dialect_textType.ext E1).other W16 (Or.inl ne9)).other W25 (Or.inl ne9)).other W34 (Or.inl ne9)).other W43 (Or.inl ne9)).ext E151).ext E174).other W197 (Or.inl ne190)).keep K207 (ninS ne167 nin0))
        have f260 := (Nat.le_trans (Nat.le_trans (Nat.le_trans (Nat.le_trans (Nat.le_trans (Nat.le_trans (Nat.le_trans (Nat.le_trans (Nat.le_trans (Nat.le_refl h0.size) E1.1) (Keep.of_wr W16).1) (Keep.of_wr W25).1) (Keep.of_wr W34).1) (Keep.of_wr W43).1) E151.1) E174.1) (Keep.of_wr W197).1) K207.1)
        have f261 : Safe Z own_EL s.vm T207.heap b1 := (Safe.keep K207 (sfS f217 sf0) CH198.1 (Safe.wr W197 Yb195 CH194.1 (Safe.ext E174 CH169.1 (Safe.ext E151 CH44.1 (Safe.wr W43 f41 CH35.1 f41)))))
        have f262 := (f216.keep K207 (ninS ne168 nin0))
        exact ⟨T207, _, b151, s.vm, h0.size, b151, t_207, kt_207, [(.int (own_by c0))], X207.more (by decide) (by decide), N207, KK207, CH235, f237, f238, f239, f240, f241, f242, f243, f244, f245, f246, f247, f248, f249, f250, f251, f252, f253, f254, f255, f256, f257, f258, f259, f260, f261, f262, hZ, hown, hS0, f218, f219, f220, (by rw [hc88_148]; exact f222), (own_clh1 hc88_148), rfl, pre236⟩
      · have pre264 : ∀ t, Steps p.tables e below (T43.setTop (mkF m 114 #[iv p0, iv p1, iv p2, iv p3, iv p4, rv b1, iv kk, iv nn, iv c0, iv c1, iv c2, .unset, .unset, .unset, .unset, .unset, .unset, .unset] [(.int (2 : Int32)), (.int nn)])) t → Steps p.tables e below (s₁.setTop (entryFrame m #[(.int p0), (.int p1), (.int p2), (.int p3), (.int p4)] maxLocals)) t := fun t kt => pre149 t (by
         refine XS.icmpYes X43.here hx rfl (pc0 := 88) (pc' := 111) rfl (hb hby at_88) rfl (feq hc88_148).2 (by decide) (by decide) ?_
         refine XS.iload X43.here hx rfl (hb hby at_111) rfl ?_
         refine XS.iconst X43.here hx rfl (hb hby at_113) ?_
         exact kt)
        by_cases hc114_263 : nn = (2 : Int32)
        · have f265 := (Nat.le_trans (Nat.le_trans (Nat.le_trans (Nat.le_trans (Nat.le_trans Z0 E1.1) (Keep.of_wr W16).1) (Keep.of_wr W25).1) (Keep.of_wr W34).1) (Keep.of_wr W43).1)
          obtain ⟨T266, h266, X266, e266, E266, A266, D266, U266, st266⟩ := newO X43 hx hZ hown (own_g hw 12 rfl) (own_g hw 13 rfl) (own_g hw 14 rfl) e43 (g := (mkF m 117 #[iv p0, iv p1, iv p2, iv p3, iv p4, rv b1, iv kk, iv nn, iv c0, iv c1, iv c2, .unset, .unset, .unset, .unset, .unset, .unset, .unset] [])) rfl (hb hby at_117) (by decide) (by decide)
          obtain ⟨b266, g266⟩ : ∃ z, z = h43.size := ⟨_, rfl⟩
          rw [← g266] at A266 D266 U266 st266
          have f267 := ((((f14.wr W16).wr W25).wr W34).wr W43)
          have ne268 : wP ≠ b266 := Nat.ne_of_lt (Nat.lt_of_lt_of_le f267.lt (Nat.le_of_eq g266.symm))
          have f269 := (((((P_E_tywP.ext E1).wr W16).wr W25).wr W34).wr W43)
          have ne270 : tywP ≠ b266 := Nat.ne_of_lt (Nat.lt_of_lt_of_le f269.lt (Nat.le_of_eq g266.symm))
          have f271 := (((((P_V_twwP.ext E1).other W16 ne4).other W25 ne4).other W34 ne4).other W43 ne4)
          have ne272 : twwP ≠ b266 := Nat.ne_of_lt (Nat.lt_of_lt_of_le f271.lt (Nat.le_of_eq g266.symm))
          have f273 := (((f22.wr W25).wr W34).wr W43)
          have ne274 : wM ≠ b266 := Nat.ne_of_lt (Nat.lt_of_lt_of_le f273.lt (Nat.le_of_eq g266.symm))
          have f275 := ((f31.wr W34).wr W43)
          have ne276 : wH ≠ b266 := Nat.ne_of_lt (Nat.lt_of_lt_of_le f275.lt (Nat.le_of_eq g266.symm))
          have f277 := (((((P_E_tywH.ext E1).wr W16).wr W25).wr W34).wr W43)
          have ne278 : tywH ≠ b266 := Nat.ne_of_lt (Nat.lt_of_lt_of_le f277.lt (Nat.le_of_eq g266.symm))
          have f279 := (((((P_V_twwH.ext E1).other W16 ne8).other W25 ne8).other W34 ne8).other W43 ne8)
          have ne280 : twwH ≠ b266 := Nat.ne_of_lt (Nat.lt_of_lt_of_le f279.lt (Nat.le_of_eq g266.symm))
          have f281 := (f40.wr W43)
          have ne282 : wQ ≠ b266 := Nat.ne_of_lt (Nat.lt_of_lt_of_le f281.lt (Nat.le_of_eq g266.symm))
          have ne283 : b1 ≠ b266 := Nat.ne_of_lt (Nat.lt_of_lt_of_le V43.lt (Nat.le_of_eq g266.symm))
          have o266 : n0 ≤ b266 := Nat.le_trans f265 (Nat.le_of_eq g266.symm)
          have z266 : h0.size ≤ b266 := Nat.le_trans K46.1 (Nat.le_of_eq g266.symm)
          have CH284 : CHr Z own_EL s.vm h0 s.vm h266 := CH44.trans (CHr.ext E266 CH44.1)
          have Yb285 : Safe Z own_EL s.vm h266 b266 := Safe.ext E266 CH44.1 (Safe.new (Nat.le_of_eq g266.symm))
          have K266 : Keep h0 h266 [] := K46.ext E266
          have f286 : Fld Z h266 b266 "java/lang/String" "coder" "B" (.int (0 : Int32)) := D266 (Or.inr (own_g hw 39 rfl)) (ty := .byte) (by decide)
          have f287 : Fld Z h266 b266 "java/lang/String" "value" "[B" .null := D266 (Or.inr (own_g hw 41 rfl)) (ty := (.array .byte)) (by decide)
          have f288 := (Nat.le_trans f265 E266.1)
          obtain ⟨T289, h289, k289, X289, e289, E289, A289, st289⟩ := newP X266 hx hZ (own_g hw 15 rfl) e266 (g := (mkF m 122 #[iv p0, iv p1, iv p2, iv p3, iv p4, rv b1, iv kk, iv nn, iv c0, iv c1, iv c2, .unset, .unset, .unset, .unset, .unset, .unset, .unset] [(.int (2 : Int32)), (.ref b266), (.ref b266)])) rfl (hb hby at_122) rfl (by decide) (cap := 2) (by decide) (by decide) (by decide) (by decide)
          obtain ⟨b289, g289⟩ : ∃ z, z = h266.size := ⟨_, rfl⟩
          rw [← g289] at A289 st289
          have f290 := (f267.ext E266)
          have ne291 : wP ≠ b289 := Nat.ne_of_lt (Nat.lt_of_lt_of_le f290.lt (Nat.le_of_eq g289.symm))
          have f292 := (f269.ext E266)
          have ne293 : tywP ≠ b289 := Nat.ne_of_lt (Nat.lt_of_lt_of_le f292.lt (Nat.le_of_eq g289.symm))
          have f294 := (f271.ext E266)
          have ne295 : twwP ≠ b289 := Nat.ne_of_lt (Nat.lt_of_lt_of_le f294.lt (Nat.le_of_eq g289.symm))
          have f296 := (f273.ext E266)
          have ne297 : wM ≠ b289 := Nat.ne_of_lt (Nat.lt_of_lt_of_le f296.lt (Nat.le_of_eq g289.symm))
          have f298 := (f275.ext E266)
          have ne299 : wH ≠ b289 := Nat.ne_of_lt (Nat.lt_of_lt_of_le f298.lt (Nat.le_of_eq g289.symm))
          have f300 := (f277.ext E266)
          have ne301 : tywH ≠ b289 := Nat.ne_of_lt (Nat.lt_of_lt_of_le f300.lt (Nat.le_of_eq g289.symm))
          have f302 := (f279.ext E266)
          have ne303 : twwH ≠ b289 := Nat.ne_of_lt (Nat.lt_of_lt_of_le f302.lt (Nat.le_of_eq g289.symm))
          have f304 := (f281.ext E266)
          have ne305 : wQ ≠ b289 := Nat.ne_of_lt (Nat.lt_of_lt_of_le f304.lt (Nat.le_of_eq g289.symm))
          have f306 := (V43.ext E266)
          have ne307 : b1 ≠ b289 := Nat.ne_of_lt (Nat.lt_of_lt_of_le f306.lt (Nat.le_of_eq g289.symm))
          have ne308 : b266 ≠ b289 := Nat.ne_of_lt (Nat.lt_of_lt_of_le A266.lt (Nat.le_of_eq g289.symm))
          have o289 : n0 ≤ b289 := Nat.le_trans f288 (Nat.le_of_eq g289.symm)
          have z289 : h0.size ≤ b289 := Nat.le_trans K266.1 (Nat.le_of_eq g289.symm)
          have CH309 : CHr Z own_EL s.vm h0 s.vm h289 := CH284.trans (CHr.ext E289 CH284.1)
          have Yb310 : Safe Z own_EL s.vm h289 b289 := Safe.ext E289 CH284.1 (Safe.new (Nat.le_of_eq g289.symm))
          have K289 : Keep h0 h289 [] := K266.ext E289
          have V289 : Arv Z h289 b289 k289 .char (2 : Int32) [(.int (0 : Int32)), (.int (0 : Int32))] (.int (0 : Int32)) := (Arv.new A289 (by decide)).pad (pad_rep [] (.int (0 : Int32)) 2)
          obtain ⟨cl311, Ar311, qq311, S311, N311_, H311, G311⟩ := id V289
          have hin311 : ¬ ((0 : Int32) < 0 ∨ cl311.slots.size ≤ ((0 : Int32)).toNatClampNeg) := inb_of S311 ⟨by decide, by decide⟩
          obtain ⟨T312, h312, X312, e312, W312, st312⟩ := stC X289 hx hZ e289 Ar311 (j := (0 : Int32)) hin311 (g := (mkF m 128 #[iv p0, iv p1, iv p2, iv p3, iv p4, rv b1, iv kk, iv nn, iv c0, iv c1, iv c2, .unset, .unset, .unset, .unset, .unset, .unset, .unset] [(.int c0), (.int (0 : Int32)), (.ref b289), (.ref b289), (.ref b266), (.ref b266)])) rfl rfl (hb hby at_128)
          have CH313 : CHr Z own_EL s.vm h0 s.vm h312 := CH309.trans (CHr.wr W312 Yb310 CH309.1)
          have V312 : Arv Z h312 b289 k289 .char (2 : Int32) [(.int c0), (.int (0 : Int32))] (.int (0 : Int32)) := by have q_ := Arv.set Ar311 qq311 S311 N311_ H311 G311 (fits_nar_char _) W312 0 rfl (Nat.le_of_ble_eq_true rfl); rw [own_nc8 hc0] at q_; exact q_
          have N314 := Fr.snoc X312 N45 o289
          have K315 : Keep h0 h312 [] := K289.wr W312 (Or.inr z289)
          have f316 : Safe Z own_EL s.vm h312 b289 := (Safe.wr W312 Yb310 CH309.1 Yb310)
          obtain ⟨cl317, Ar317, qq317, S317, N317_, H317, G317⟩ := id V312
          have hin317 : ¬ ((1 : Int32) < 0 ∨ cl317.slots.size ≤ ((1 : Int32)).toNatClampNeg) := inb_of S317 ⟨by decide, by decide⟩
          obtain ⟨T318, h318, X318, e318, W318, st318⟩ := stC X312 hx hZ e312 Ar317 (j := (1 : Int32)) hin317 (g := (mkF m 133 #[iv p0, iv p1, iv p2, iv p3, iv p4, rv b1, iv kk, iv nn, iv c0, iv c1, iv c2, .unset, .unset, .unset, .unset, .unset, .unset, .unset] [(.int c1), (.int (1 : Int32)), (.ref b289), (.ref b289), (.ref b266), (.ref b266)])) rfl rfl (hb hby at_133)
          have CH319 : CHr Z own_EL s.vm h0 s.vm h318 := CH313.trans (CHr.wr W318 f316 CH313.1)
          have V318 : Arv Z h318 b289 k289 .char (2 : Int32) [(.int c0), (.int c1)] (.int (0 : Int32)) := by have q_ := Arv.set Ar317 qq317 S317 N317_ H317 G317 (fits_nar_char _) W318 1 rfl (Nat.le_of_ble_eq_true rfl); rw [own_nc8 hc1] at q_; exact q_
          have N320 := Fr.snoc X318 N314 o289
          have K321 : Keep h0 h318 [] := K315.wr W318 (Or.inr z289)
          have pre322 : ∀ t, Steps p.tables e below (T318.setTop (mkF m 134 #[iv p0, iv p1, iv p2, iv p3, iv p4, rv b1, iv kk, iv nn, iv c0, iv c1, iv c2, .unset, .unset, .unset, .unset, .unset, .unset, .unset] [(.ref b289), (.ref b266), (.ref b266)])) t → Steps p.tables e below (s₁.setTop (entryFrame m #[(.int p0), (.int p1), (.int p2), (.int p3), (.int p4)] maxLocals)) t := fun t kt => pre264 t (by
           refine XS.icmpNo X43.here hx rfl (hb hby at_114) rfl (teq hc114_263).2 ?_
           refine st266 _ ?_
           refine XS.dup X266.here hx rfl (hb hby at_120) rfl rfl ?_
           refine XS.iconst X266.here hx rfl (hb hby at_121) ?_
           show Steps _ _ _ (T266.setTop (mkF m 122 #[iv p0, iv p1, iv p2, iv p3, iv p4, rv b1, iv kk, iv nn, iv c0, iv c1, iv c2, .unset, .unset, .unset, .unset, .unset, .unset, .unset] [(.int (2 : Int32)), (.ref b266), (.ref b266)])) _
           refine st289 _ ?_
           refine XS.dup X289.here hx rfl (hb hby at_124) rfl rfl ?_
           refine XS.iconst X289.here hx rfl (hb hby at_125) ?_
           refine XS.iload X289.here hx rfl (hb hby at_126) rfl ?_
           refine st312 _ ?_
           refine XS.dup X312.here hx rfl (hb hby at_129) rfl rfl ?_
           refine XS.iconst X312.here hx rfl (hb hby at_130) ?_
           refine XS.iload X312.here hx rfl (hb hby at_131) rfl ?_
           refine st318 _ ?_
           exact kt)
          have f323 := (((A266.ext E289).wr W312).wr W318)
          have f324 := (((f287.ext E289).other W312 (Or.inl ne308)).other W318 (Or.inl ne308))
          have f325 := (((f286.ext E289).other W312 (Or.inl ne308)).other W318 (Or.inl ne308))
          have f326 := (((((((((P_S_String_COMPACT_STRINGS.ext E1).wr W16).wr W25).wr W34).wr W43).ext E266).ext E289).wr W312).wr W318)
          have f327 := (Nat.le_trans (Nat.le_trans (Nat.le_trans f288 E289.1) (Keep.of_wr W312).1) (Keep.of_wr W318).1)
          obtain ⟨_, _, ⟨T328, L328, k328, n328⟩, -, X328, ⟨Lc328, hQ328, l328, y328, z328⟩, st328⟩ := X318.specialBack hx (y := own_y34) rfl hown (mvT hZ (own_g hw 16 rfl)) (mvT hZ (own_g hw 17 rfl)) (mvT hZ (own_g hw 18 rfl)) (by decide) (backOf (W := 1) (rmI1_2 l Z a0 hw [] b266 b289 k289 c0 c1 zC h318 n0 f327 f323 f324 f325 V318 ne308 hc0 hc1 f326 hz o266) hZ (own_g hw 18 rfl) (own_g hw 14 rfl) (by decide) (by decide)) (g := (mkF m 134 #[iv p0, iv p1, iv p2, iv p3, iv p4, rv b1, iv kk, iv nn, iv c0, iv c1, iv c2, .unset, .unset, .unset, .unset, .unset, .unset, .unset] [(.ref b289), (.ref b266), (.ref b266)])) rfl (by rw [hml]; rfl) (Steps.refl _) (a := b266) (argsL := [(.ref b289)]) (rest := [(.ref b266)]) (lenOf pd___C_V rfl) rfl (by show 2 * 0 + _ ≤ _; exact Nat.le_of_eq rfl) (hb hby at_134) (fun _ _ => ⟨rfl, e318, (by decide : 3 + 1 ≤ _), (by decide : 10 + 2 ≤ _)⟩)
          dsimp only [Pt.U, Pt.locs, Pt.cells, Pt.slots] at X328 l328 y328 z328 st328 hQ328
          subst l328 y328 z328
          have f329 := (((f290.ext E289).wr W312).wr W318)
          have f330 := (((f292.ext E289).wr W312).wr W318)
          have f331 := (((f294.ext E289).other W312 ne295).other W318 ne295)
          have f332 := (((f296.ext E289).wr W312).wr W318)
          have f333 := (((f298.ext E289).wr W312).wr W318)
          have f334 := (((f300.ext E289).wr W312).wr W318)
          have f335 := (((f302.ext E289).other W312 ne303).other W318 ne303)
          have f336 := (((f304.ext E289).wr W312).wr W318)
          have f337 := (((f306.ext E289).other W312 ne307).other W318 ne307)
          have f338 : Safe Z own_EL s.vm h318 b266 := (Safe.wr W318 f316 CH313.1 (Safe.wr W312 Yb310 CH309.1 (Safe.ext E289 CH284.1 Yb285)))
          obtain ⟨t_328, kt_328, rfl, N328q, K328, sx328_0, f339, f340, f341, f342, f343⟩ := hQ328
          have ot_328 : n0 ≤ t_328 := Nat.le_trans f327 sx328_0
          have zt_328 : h0.size ≤ t_328 := Nat.le_trans K321.1 sx328_0
          have ne344 : wP ≠ t_328 := Nat.ne_of_lt (Nat.lt_of_lt_of_le f329.lt sx328_0)
          have ne345 : tywP ≠ t_328 := Nat.ne_of_lt (Nat.lt_of_lt_of_le f330.lt sx328_0)
          have ne346 : twwP ≠ t_328 := Nat.ne_of_lt (Nat.lt_of_lt_of_le f331.lt sx328_0)
          have ne347 : wM ≠ t_328 := Nat.ne_of_lt (Nat.lt_of_lt_of_le f332.lt sx328_0)
          have ne348 : wH ≠ t_328 := Nat.ne_of_lt (Nat.lt_of_lt_of_le f333.lt sx328_0)
          have ne349 : tywH ≠ t_328 := Nat.ne_of_lt (Nat.lt_of_lt_of_le f334.lt sx328_0)
          have ne350 : twwH ≠ t_328 := Nat.ne_of_lt (Nat.lt_of_lt_of_le f335.lt sx328_0)
          have ne351 : wQ ≠ t_328 := Nat.ne_of_lt (Nat.lt_of_lt_of_le f336.lt sx328_0)
          have ne352 : b1 ≠ t_328 := Nat.ne_of_lt (Nat.lt_of_lt_of_le f337.lt sx328_0)
          have ne353 : b266 ≠ t_328 := Nat.ne_of_lt (Nat.lt_of_lt_of_le f323.lt sx328_0)
          have ne354 : b289 ≠ t_328 := Nat.ne_of_lt (Nat.lt_of_lt_of_le V318.lt sx328_0)
          have Yn355 : Safe Z own_EL s.vm h318 t_328 := Safe.new sx328_0
          have KK328 : Keep h0 T328.heap [] := Keep.trans K321 K328 (allS (Or.inr z266) all0)
          have CH356 : CHr Z own_EL s.vm h0 s.vm T328.heap := CH319.trans (CHr.keep K328 (sfS f338 sf0) CH319.1)
          have N328 := Fr.app N320 N328q
          have pre357 : ∀ t, Steps p.tables e below (T328.setTop (mkF m 169 #[iv p0, iv p1, iv p2, iv p3, iv p4, rv b1, iv kk, iv nn, iv c0, iv c1, iv c2, rv b266, .unset, .unset, .unset, .unset, .unset, .unset] [])) t → Steps p.tables e below (s₁.setTop (entryFrame m #[(.int p0), (.int p1), (.int p2), (.int p3), (.int p4)] maxLocals)) t := fun t kt => pre322 t (by
           show Steps _ _ _ (T318.setTop (mkF m 134 #[iv p0, iv p1, iv p2, iv p3, iv p4, rv b1, iv kk, iv nn, iv c0, iv c1, iv c2, .unset, .unset, .unset, .unset, .unset, .unset, .unset] [(.ref b289), (.ref b266), (.ref b266)])) _
           refine st328.trans ?_
           refine XS.astore X328.here hx rfl (hb hby at_137) rfl rfl (l' := #[iv p0, iv p1, iv p2, iv p3, iv p4, rv b1, iv kk, iv nn, iv c0, iv c1, iv c2, rv b266, .unset, .unset, .unset, .unset, .unset, .unset]) rfl ?_
           refine XS.goto X328.here hx rfl (pc0 := 139) (pc' := 169) rfl (hb hby at_139) (by decide) (by decide) ?_
           exact kt)
          have f358 := (Nat.le_trans f327 K328.1)
          have f359 := (own_staKeep f326 K328 (nsS f323.nostat ns0))
          have f360 := (own_staKeep (((((((((P_S_Preconditions_SIOOBE_FORMATTER.ext E1).wr W16).wr W25).wr W34).wr W43).ext E266).ext E289).wr W312).wr W318) K328 (nsS f323.nostat ns0))
          have f361 := (own_staKeep ((((((((f12.wr W16).wr W25).wr W34).wr W43).ext E266).ext E289).wr W312).wr W318) K328 (nsS f323.nostat ns0))
          have f362 := (f329.keep K328)
          have f363 := ((((((((((P_F_wP_Dialect_textType.ext E1).other W16 (Or.inl ne2)).other W25 (Or.inl ne2)).other W34 (Or.inl ne2)).other W43 (Or.inl ne2)).ext E266).ext E289).other W312 (Or.inl ne291)).other W318 (Or.inl ne291)).keep K328 (ninS ne268 nin0))
          have f364 := (f330.keep K328)
          have f365 := ((((((((((P_F_tywP_String_value.ext E1).other W16 (Or.inl ne3)).other W25 (Or.inl ne3)).other W34 (Or.inl ne3)).other W43 (Or.inl ne3)).ext E266).ext E289).other W312 (Or.inl ne293)).other W318 (Or.inl ne293)).keep K328 (ninS ne270 nin0))
          have f366 := ((((((((((P_F_tywP_String_coder.ext E1).other W16 (Or.inl ne3)).other W25 (Or.inl ne3)).other W34 (Or.inl ne3)).other W43 (Or.inl ne3)).ext E266).ext E289).other W312 (Or.inl ne293)).other W318 (Or.inl ne293)).keep K328 (ninS ne270 nin0))
          have f367 := (f331.keep K328 (ninS ne272 nin0))
          have f368 := (own_staKeep (((((((f20.wr W25).wr W34).wr W43).ext E266).ext E289).wr W312).wr W318) K328 (nsS f323.nostat ns0))
          have f369 := (f332.keep K328)
          have f370 := ((((((((((P_F_wM_Dialect_textType.ext E1).other W16 (Or.inl ne5)).other W25 (Or.inl ne5)).other W34 (Or.inl ne5)).other W43 (Or.inl ne5)).ext E266).ext E289).other W312 (Or.inl ne297)).other W318 (Or.inl ne297)).keep K328 (ninS ne274 nin0))
          have f371 := (own_staKeep ((((((f29.wr W34).wr W43).ext E266).ext E289).wr W312).wr W318) K328 (nsS f323.nostat ns0))
          have f372 := (f333.keep K328)
          have f373 := ((((((((((P_F_wH_Dialect_textType.ext E1).other W16 (Or.inl ne6)).other W25 (Or.inl ne6)).other W34 (Or.inl ne6)).other W43 (Or.inl ne6)).ext E266).ext E289).other W312 (Or.inl ne299)).other W318 (Or.inl ne299)).keep K328 (ninS ne276 nin0))
          have f374 := (f334.keep K328)
          have f375 := ((((((((((P_F_tywH_String_value.ext E1).other W16 (Or.inl ne7)).other W25 (Or.inl ne7)).other W34 (Or.inl ne7)).other W43 (Or.inl ne7)).ext E266).ext E289).other W312 (Or.inl ne301)).other W318 (Or.inl ne301)).keep K328 (ninS ne278 nin0))
          have f376 := ((((((((((P_F_tywH_String_coder.ext E1).other W16 (Or.inl ne7)).other W25 (Or.inl ne7)).other W34 (Or.inl ne7)).other W43 (Or.inl ne7)).ext E266).ext E289).other W312 (Or.inl ne301)).other W318 (Or.inl ne301)).keep K328 (ninS ne278 nin0))
          have f377 := (f335.keep K328 (ninS ne280 nin0))
          have f378 := (own_staKeep (((((f38.wr W43).ext E266).ext E289).wr W312).wr W318) K328 (nsS f323.nostat ns0))
          have f379 := (f336.keep K328)
          have f380 := ((((((((((P_F_wQ_Dialect_textType.ext E1).other W16 (Or.inl ne9)).other W25 (Or.inl ne9)).other W34 (Or.inl ne9)).other W43 (Or.inl ne9)).ext E266).ext E289).other W312 (Or.inl ne305)).other W318 (Or.inl ne305)).keep K328 (ninS ne282 nin0))
          have f381 := (Nat.le_trans (Nat.le_trans (Nat.le_trans (Nat.le_trans (Nat.le_trans (Nat.le_trans (Nat.le_trans (Nat.le_trans (Nat.le_trans (Nat.le_trans (Nat.le_refl h0.size) E1.1) (Keep.of_wr W16).1) (Keep.of_wr W25).1) (Keep.of_wr W34).1) (Keep.of_wr W43).1) E266.1) E289.1) (Keep.of_wr W312).1) (Keep.of_wr W318).1) K328.1)
          have f382 : Safe Z own_EL s.vm T328.heap b1 := (Safe.keep K328 (sfS f338 sf0) CH319.1 (Safe.wr W318 f316 CH313.1 (Safe.wr W312 Yb310 CH309.1 (Safe.ext E289 CH284.1 (Safe.ext E266 CH44.1 (Safe.wr W43 f41 CH35.1 f41))))))
          have f383 := (f337.keep K328 (ninS ne283 nin0))
          exact ⟨T328, _, b266, s.vm, h0.size, b266, t_328, kt_328, [(.int (own_by c0)), (.int (own_by c1))], X328.more (by decide) (by decide), N328, KK328, CH356, f358, f359, f360, f361, f362, f363, f364, f365, f366, f367, f368, f369, f370, f371, f372, f373, f374, f375, f376, f377, f378, f379, f380, f381, f382, f383, hZ, hown, hS0, f339, f340, f341, (by rw [hc114_263]; exact f343), (own_clh2 hc114_263), rfl, pre357⟩
        · have f384 := (Nat.le_trans (Nat.le_trans (Nat.le_trans (Nat.le_trans (Nat.le_trans Z0 E1.1) (Keep.of_wr W16).1) (Keep.of_wr W25).1) (Keep.of_wr W34).1) (Keep.of_wr W43).1)
          obtain ⟨T385, h385, X385, e385, E385, A385, D385, U385, st385⟩ := newO X43 hx hZ hown (own_g hw 12 rfl) (own_g hw 13 rfl) (own_g hw 14 rfl) e43 (g := (mkF m 142 #[iv p0, iv p1, iv p2, iv p3, iv p4, rv b1, iv kk, iv nn, iv c0, iv c1, iv c2, .unset, .unset, .unset, .unset, .unset, .unset, .unset] [])) rfl (hb hby at_142) (by decide) (by decide)
          obtain ⟨b385, g385⟩ : ∃ z, z = h43.size := ⟨_, rfl⟩
          rw [← g385] at A385 D385 U385 st385
          have f386 := ((((f14.wr W16).wr W25).wr W34).wr W43)
          have ne387 : wP ≠ b385 := Nat.ne_of_lt (Nat.lt_of_lt_of_le f386.lt (Nat.le_of_eq g385.symm))
          have f388 := (((((P_E_tywP.ext E1).wr W16).wr W25).wr W34).wr W43)
          have ne389 : tywP ≠ b385 := Nat.ne_of_lt (Nat.lt_of_lt_of_le f388.lt (Nat.le_of_eq g385.symm))
          have f390 := (((((P_V_twwP.ext E1).other W16 ne4).other W25 ne4).other W34 ne4).other W43 ne4)
          have ne391 : twwP ≠ b385 := Nat.ne_of_lt (Nat.lt_of_lt_of_le f390.lt (Nat.le_of_eq g385.symm))
          have f392 := (((f22.wr W25).wr W34).wr W43)
          have ne393 : wM ≠ b385 := Nat.ne_of_lt (Nat.lt_of_lt_of_le f392.lt (Nat.le_of_eq g385.symm))
          have f394 := ((f31.wr W34).wr W43)
          have ne395 : wH ≠ b385 := Nat.ne_of_lt (Nat.lt_of_lt_of_le f394.lt (Nat.le_of_eq g385.symm))
          have f396 := (((((P_E_tywH.ext E1).wr W16).wr W25).wr W34).wr W43)
          have ne397 : tywH ≠ b385 := Nat.ne_of_lt (Nat.lt_of_lt_of_le f396.lt (Nat.le_of_eq g385.symm))
          have f398 := (((((P_V_twwH.ext E1).other W16 ne8).other W25 ne8).other W34 ne8).other W43 ne8)
          have ne399 : twwH ≠ b385 := Nat.ne_of_lt (Nat.lt_of_lt_of_le f398.lt (Nat.le_of_eq g385.symm))
          have f400 := (f40.wr W43)
          have ne401 : wQ ≠ b385 := Nat.ne_of_lt (Nat.lt_of_lt_of_le f400.lt (Nat.le_of_eq g385.symm))
          have ne402 : b1 ≠ b385 := Nat.ne_of_lt (Nat.lt_of_lt_of_le V43.lt (Nat.le_of_eq g385.symm))
          have o385 : n0 ≤ b385 := Nat.le_trans f384 (Nat.le_of_eq g385.symm)
          have z385 : h0.size ≤ b385 := Nat.le_trans K46.1 (Nat.le_of_eq g385.symm)
          have CH403 : CHr Z own_EL s.vm h0 s.vm h385 := CH44.trans (CHr.ext E385 CH44.1)
          have Yb404 : Safe Z own_EL s.vm h385 b385 := Safe.ext E385 CH44.1 (Safe.new (Nat.le_of_eq g385.symm))
          have K385 : Keep h0 h385 [] := K46.ext E385
          have f405 : Fld Z h385 b385 "java/lang/String" "coder" "B" (.int (0 : Int32)) := D385 (Or.inr (own_g hw 39 rfl)) (ty := .byte) (by decide)
          have f406 : Fld Z h385 b385 "java/lang/String" "value" "[B" .null := D385 (Or.inr (own_g hw 41 rfl)) (ty := (.array .byte)) (by decide)
          have f407 := (Nat.le_trans f384 E385.1)
          obtain ⟨T408, h408, k408, X408, e408, E408, A408, st408⟩ := newP X385 hx hZ (own_g hw 15 rfl) e385 (g := (mkF m 147 #[iv p0, iv p1, iv p2, iv p3, iv p4, rv b1, iv kk, iv nn, iv c0, iv c1, iv c2, .unset, .unset, .unset, .unset, .unset, .unset, .unset] [(.int (3 : Int32)), (.ref b385), (.ref b385)])) rfl (hb hby at_147) rfl (by decide) (cap := 3) (by decide) (by decide) (by decide) (by decide)
          obtain ⟨b408, g408⟩ : ∃ z, z = h385.size := ⟨_, rfl⟩
          rw [← g408] at A408 st408
          have f409 := (f386.ext E385)
          have ne410 : wP ≠ b408 := Nat.ne_of_lt (Nat.lt_of_lt_of_le f409.lt (Nat.le_of_eq g408.symm))
          have f411 := (f388.ext E385)
          have ne412 : tywP ≠ b408 := Nat.ne_of_lt (Nat.lt_of_lt_of_le f411.lt (Nat.le_of_eq g408.symm))
          have f413 := (f390.ext E385)
          have ne414 : twwP ≠ b408 := Nat.ne_of_lt (Nat.lt_of_lt_of_le f413.lt (Nat.le_of_eq g408.symm))
          have f415 := (f392.ext E385)
          have ne416 : wM ≠ b408 := Nat.ne_of_lt (Nat.lt_of_lt_of_le f415.lt (Nat.le_of_eq g408.symm))
          have f417 := (f394.ext E385)
          have ne418 : wH ≠ b408 := Nat.ne_of_lt (Nat.lt_of_lt_of_le f417.lt (Nat.le_of_eq g408.symm))
          have f419 := (f396.ext E385)
          have ne420 : tywH ≠ b408 := Nat.ne_of_lt (Nat.lt_of_lt_of_le f419.lt (Nat.le_of_eq g408.symm))
          have f421 := (f398.ext E385)
          have ne422 : twwH ≠ b408 := Nat.ne_of_lt (Nat.lt_of_lt_of_le f421.lt (Nat.le_of_eq g408.symm))
          have f423 := (f400.ext E385)
          have ne424 : wQ ≠ b408 := Nat.ne_of_lt (Nat.lt_of_lt_of_le f423.lt (Nat.le_of_eq g408.symm))
          have f425 := (V43.ext E385)
          have ne426 : b1 ≠ b408 := Nat.ne_of_lt (Nat.lt_of_lt_of_le f425.lt (Nat.le_of_eq g408.symm))
          have ne427 : b385 ≠ b408 := Nat.ne_of_lt (Nat.lt_of_lt_of_le A385.lt (Nat.le_of_eq g408.symm))
          have o408 : n0 ≤ b408 := Nat.le_trans f407 (Nat.le_of_eq g408.symm)
          have z408 : h0.size ≤ b408 := Nat.le_trans K385.1 (Nat.le_of_eq g408.symm)
          have CH428 : CHr Z own_EL s.vm h0 s.vm h408 := CH403.trans (CHr.ext E408 CH403.1)
          have Yb429 : Safe Z own_EL s.vm h408 b408 := Safe.ext E408 CH403.1 (Safe.new (Nat.le_of_eq g408.symm))
          have K408 : Keep h0 h408 [] := K385.ext E408
          have V408 : Arv Z h408 b408 k408 .char (3 : Int32) [(.int (0 : Int32)), (.int (0 : Int32)), (.int (0 : Int32))] (.int (0 : Int32)) := (Arv.new A408 (by decide)).pad (pad_rep [] (.int (0 : Int32)) 3)
          obtain ⟨cl430, Ar430, qq430, S430, N430_, H430, G430⟩ := id V408
          have hin430 : ¬ ((0 : Int32) < 0 ∨ cl430.slots.size ≤ ((0 : Int32)).toNatClampNeg) := inb_of S430 ⟨by decide, by decide⟩
          obtain ⟨T431, h431, X431, e431, W431, st431⟩ := stC X408 hx hZ e408 Ar430 (j := (0 : Int32)) hin430 (g := (mkF m 153 #[iv p0, iv p1, iv p2, iv p3, iv p4, rv b1, iv kk, iv nn, iv c0, iv c1, iv c2, .unset, .unset, .unset, .unset, .unset, .unset, .unset] [(.int c0), (.int (0 : Int32)), (.ref b408), (.ref b408), (.ref b385), (.ref b385)])) rfl rfl (hb hby at_153)
          have CH432 : CHr Z own_EL s.vm h0 s.vm h431 := CH428.trans (CHr.wr W431 Yb429 CH428.1)
          have V431 : Arv Z h431 b408 k408 .char (3 : Int32) [(.int c0), (.int (0 : Int32)), (.int (0 : Int32))] (.int (0 : Int32)) := by have q_ := Arv.set Ar430 qq430 S430 N430_ H430 G430 (fits_nar_char _) W431 0 rfl (Nat.le_of_ble_eq_true rfl); rw [own_nc8 hc0] at q_; exact q_
          have N433 := Fr.snoc X431 N45 o408
          have K434 : Keep h0 h431 [] := K408.wr W431 (Or.inr z408)
          have f435 : Safe Z own_EL s.vm h431 b408 := (Safe.wr W431 Yb429 CH428.1 Yb429)
          obtain ⟨cl436, Ar436, qq436, S436, N436_, H436, G436⟩ := id V431
          have hin436 : ¬ ((1 : Int32) < 0 ∨ cl436.slots.size ≤ ((1 : Int32)).toNatClampNeg) := inb_of S436 ⟨by decide, by decide⟩
          obtain ⟨T437, h437, X437, e437, W437, st437⟩ := stC X431 hx hZ e431 Ar436 (j := (1 : Int32)) hin436 (g := (mkF m 158 #[iv p0, iv p1, iv p2, iv p3, iv p4, rv b1, iv kk, iv nn, iv c0, iv c1, iv c2, .unset, .unset, .unset, .unset, .unset, .unset, .unset] [(.int c1), (.int (1 : Int32)), (.ref b408), (.ref b408), (.ref b385), (.ref b385)])) rfl rfl (hb hby at_158)
          have CH438 : CHr Z own_EL s.vm h0 s.vm h437 := CH432.trans (CHr.wr W437 f435 CH432.1)
          have V437 : Arv Z h437 b408 k408 .char (3 : Int32) [(.int c0), (.int c1), (.int (0 : Int32))] (.int (0 : Int32)) := by have q_ := Arv.set Ar436 qq436 S436 N436_ H436 G436 (fits_nar_char _) W437 1 rfl (Nat.le_of_ble_eq_true rfl); rw [own_nc8 hc1] at q_; exact q_
          have N439 := Fr.snoc X437 N433 o408
          have K440 : Keep h0 h437 [] := K434.wr W437 (Or.inr z408)
          have f441 : Safe Z own_EL s.vm h437 b408 := (Safe.wr W437 f435 CH432.1 f435)
          obtain ⟨cl442, Ar442, qq442, S442, N442_, H442, G442⟩ := id V437
          have hin442 : ¬ ((2 : Int32) < 0 ∨ cl442.slots.size ≤ ((2 : Int32)).toNatClampNeg) := inb_of S442 ⟨by decide, by decide⟩
          obtain ⟨T443, h443, X443, e443, W443, st443⟩ := stC X437 hx hZ e437 Ar442 (j := (2 : Int32)) hin442 (g := (mkF m 163 #[iv p0, iv p1, iv p2, iv p3, iv p4, rv b1, iv kk, iv nn, iv c0, iv c1, iv c2, .unset, .unset, .unset, .unset, .unset, .unset, .unset] [(.int c2), (.int (2 : Int32)), (.ref b408), (.ref b408), (.ref b385), (.ref b385)])) rfl rfl (hb hby at_163)
          have CH444 : CHr Z own_EL s.vm h0 s.vm h443 := CH438.trans (CHr.wr W443 f441 CH438.1)
          have V443 : Arv Z h443 b408 k408 .char (3 : Int32) [(.int c0), (.int c1), (.int c2)] (.int (0 : Int32)) := by have q_ := Arv.set Ar442 qq442 S442 N442_ H442 G442 (fits_nar_char _) W443 2 rfl (Nat.le_of_ble_eq_true rfl); rw [own_nc8 hc2] at q_; exact q_
          have N445 := Fr.snoc X443 N439 o408
          have K446 : Keep h0 h443 [] := K440.wr W443 (Or.inr z408)
          have pre447 : ∀ t, Steps p.tables e below (T443.setTop (mkF m 164 #[iv p0, iv p1, iv p2, iv p3, iv p4, rv b1, iv kk, iv nn, iv c0, iv c1, iv c2, .unset, .unset, .unset, .unset, .unset, .unset, .unset] [(.ref b408), (.ref b385), (.ref b385)])) t → Steps p.tables e below (s₁.setTop (entryFrame m #[(.int p0), (.int p1), (.int p2), (.int p3), (.int p4)] maxLocals)) t := fun t kt => pre264 t (by
           refine XS.icmpYes X43.here hx rfl (pc0 := 114) (pc' := 142) rfl (hb hby at_114) rfl (feq hc114_263).2 (by decide) (by decide) ?_
           refine st385 _ ?_
           refine XS.dup X385.here hx rfl (hb hby at_145) rfl rfl ?_
           refine XS.iconst X385.here hx rfl (hb hby at_146) ?_
           refine st408 _ ?_
           refine XS.dup X408.here hx rfl (hb hby at_149) rfl rfl ?_
           refine XS.iconst X408.here hx rfl (hb hby at_150) ?_
           refine XS.iload X408.here hx rfl (hb hby at_151) rfl ?_
           refine st431 _ ?_
           refine XS.dup X431.here hx rfl (hb hby at_154) rfl rfl ?_
           refine XS.iconst X431.here hx rfl (hb hby at_155) ?_
           refine XS.iload X431.here hx rfl (hb hby at_156) rfl ?_
           refine st437 _ ?_
           show Steps _ _ _ (T437.setTop (mkF m 159 #[iv p0, iv p1, iv p2, iv p3, iv p4, rv b1, iv kk, iv nn, iv c0, iv c1, iv c2, .unset, .unset, .unset, .unset, .unset, .unset, .unset] [(.ref b408), (.ref b385), (.ref b385)])) _
           refine XS.dup X437.here hx rfl (hb hby at_159) rfl rfl ?_
           refine XS.iconst X437.here hx rfl (hb hby at_160) ?_
           refine XS.iload X437.here hx rfl (hb hby at_161) rfl ?_
           refine st443 _ ?_
           exact kt)
          have f448 := ((((A385.ext E408).wr W431).wr W437).wr W443)
          have f449 := ((((f406.ext E408).other W431 (Or.inl ne427)).other W437 (Or.inl ne427)).other W443 (Or.inl ne427))
          have f450 := ((((f405.ext E408).other W431 (Or.inl ne427)).other W437 (Or.inl ne427)).other W443 (Or.inl ne427))
          have f451 := ((((((((((P_S_String_COMPACT_STRINGS.ext E1).wr W16).wr W25).wr W34).wr W43).ext E385).ext E408).wr W431).wr W437).wr W443)
          have f452 := (Nat.le_trans (Nat.le_trans (Nat.le_trans (Nat.le_trans f407 E408.1) (Keep.of_wr W431).1) (Keep.of_wr W437).1) (Keep.of_wr W443).1)
          obtain ⟨_, _, ⟨T453, L453, k453, n453⟩, -, X453, ⟨Lc453, hQ453, l453, y453, z453⟩, st453⟩ := X443.specialBack hx (y := own_y34) rfl hown (mvT hZ (own_g hw 16 rfl)) (mvT hZ (own_g hw 17 rfl)) (mvT hZ (own_g hw 18 rfl)) (by decide) (backOf (W := 1) (rmI1_3 l Z a0 hw [] b385 b408 k408 c0 c1 c2 zC h443 n0 f452 f448 f449 f450 V443 ne427 hc0 hc1 hc2 f451 hz o385) hZ (own_g hw 18 rfl) (own_g hw 14 rfl) (by decide) (by decide)) (g := (mkF m 164 #[iv p0, iv p1, iv p2, iv p3, iv p4, rv b1, iv kk, iv nn, iv c0, iv c1, iv c2, .unset, .unset, .unset, .unset, .unset, .unset, .unset] [(.ref b408), (.ref b385), (.ref b385)])) rfl (by rw [hml]; rfl) (Steps.refl _) (a := b385) (argsL := [(.ref b408)]) (rest := [(.ref b385)]) (lenOf pd___C_V rfl) rfl (by show 2 * 0 + _ ≤ _; exact Nat.le_of_eq rfl) (hb hby at_164) (fun _ _ => ⟨rfl, e443, (by decide : 3 + 1 ≤ _), (by decide : 11 + 3 ≤ _)⟩)
          dsimp only [Pt.U, Pt.locs, Pt.cells, Pt.slots] at X453 l453 y453 z453 st453 hQ453
          subst l453 y453 z453
          have f454 := ((((f409.ext E408).wr W431).wr W437).wr W443)
          have f455 := ((((f411.ext E408).wr W431).wr W437).wr W443)
          have f456 := ((((f413.ext E408).other W431 ne414).other W437 ne414).other W443 ne414)
          have f457 := ((((f415.ext E408).wr W431).wr W437).wr W443)
          have f458 := ((((f417.ext E408).wr W431).wr W437).wr W443)
          have f459 := ((((f419.ext E408).wr W431).wr W437).wr W443)
          have f460 := ((((f421.ext E408).other W431 ne422).other W437 ne422).other W443 ne422)
          have f461 := ((((f423.ext E408).wr W431).wr W437).wr W443)
          have f462 := ((((f425.ext E408).other W431 ne426).other W437 ne426).other W443 ne426)
          have f463 : Safe Z own_EL s.vm h443 b385 := (Safe.wr W443 f441 CH438.1 (Safe.wr W437 f435 CH432.1 (Safe.wr W431 Yb429 CH428.1 (Safe.ext E408 CH403.1 Yb404))))
          obtain ⟨t_453, kt_453, rfl, N453q, K453, sx453_0, f464, f465, f466, f467, f468⟩ := hQ453
          have ot_453 : n0 ≤ t_453 := Nat.le_trans f452 sx453_0
          have zt_453 : h0.size ≤ t_453 := Nat.le_trans K446.1 sx453_0
          have ne469 : wP ≠ t_453 := Nat.ne_of_lt (Nat.lt_of_lt_of_le f454.lt sx453_0)
          have ne470 : tywP ≠ t_453 := Nat.ne_of_lt (Nat.lt_of_lt_of_le f455.lt sx453_0)
          have ne471 : twwP ≠ t_453 := Nat.ne_of_lt (Nat.lt_of_lt_of_le f456.lt sx453_0)
          have ne472 : wM ≠ t_453 := Nat.ne_of_lt (Nat.lt_of_lt_of_le f457.lt sx453_0)
          have ne473 : wH ≠ t_453 := Nat.ne_of_lt (Nat.lt_of_lt_of_le f458.lt sx453_0)
          have ne474 : tywH ≠ t_453 := Nat.ne_of_lt (Nat.lt_of_lt_of_le f459.lt sx453_0)
          have ne475 : twwH ≠ t_453 := Nat.ne_of_lt (Nat.lt_of_lt_of_le f460.lt sx453_0)
          have ne476 : wQ ≠ t_453 := Nat.ne_of_lt (Nat.lt_of_lt_of_le f461.lt sx453_0)
          have ne477 : b1 ≠ t_453 := Nat.ne_of_lt (Nat.lt_of_lt_of_le f462.lt sx453_0)
          have ne478 : b385 ≠ t_453 := Nat.ne_of_lt (Nat.lt_of_lt_of_le f448.lt sx453_0)
          have ne479 : b408 ≠ t_453 := Nat.ne_of_lt (Nat.lt_of_lt_of_le V443.lt sx453_0)
          have Yn480 : Safe Z own_EL s.vm h443 t_453 := Safe.new sx453_0
          have KK453 : Keep h0 T453.heap [] := Keep.trans K446 K453 (allS (Or.inr z385) all0)
          have CH481 : CHr Z own_EL s.vm h0 s.vm T453.heap := CH444.trans (CHr.keep K453 (sfS f463 sf0) CH444.1)
          have N453 := Fr.app N445 N453q
          have pre482 : ∀ t, Steps p.tables e below (T453.setTop (mkF m 169 #[iv p0, iv p1, iv p2, iv p3, iv p4, rv b1, iv kk, iv nn, iv c0, iv c1, iv c2, rv b385, .unset, .unset, .unset, .unset, .unset, .unset] [])) t → Steps p.tables e below (s₁.setTop (entryFrame m #[(.int p0), (.int p1), (.int p2), (.int p3), (.int p4)] maxLocals)) t := fun t kt => pre447 t (by
           show Steps _ _ _ (T443.setTop (mkF m 164 #[iv p0, iv p1, iv p2, iv p3, iv p4, rv b1, iv kk, iv nn, iv c0, iv c1, iv c2, .unset, .unset, .unset, .unset, .unset, .unset, .unset] [(.ref b408), (.ref b385), (.ref b385)])) _
           refine st453.trans ?_
           refine XS.astore X453.here hx rfl (hb hby at_167) rfl rfl (l' := #[iv p0, iv p1, iv p2, iv p3, iv p4, rv b1, iv kk, iv nn, iv c0, iv c1, iv c2, rv b385, .unset, .unset, .unset, .unset, .unset, .unset]) rfl ?_
           exact kt)
          have f483 := (Nat.le_trans f452 K453.1)
          have f484 := (own_staKeep f451 K453 (nsS f448.nostat ns0))
          have f485 := (own_staKeep ((((((((((P_S_Preconditions_SIOOBE_FORMATTER.ext E1).wr W16).wr W25).wr W34).wr W43).ext E385).ext E408).wr W431).wr W437).wr W443) K453 (nsS f448.nostat ns0))
          have f486 := (own_staKeep (((((((((f12.wr W16).wr W25).wr W34).wr W43).ext E385).ext E408).wr W431).wr W437).wr W443) K453 (nsS f448.nostat ns0))
          have f487 := (f454.keep K453)
          have f488 := (((((((((((P_F_wP_Dialect_textType.ext E1).other W16 (Or.inl ne2)).other W25 (Or.inl ne2)).other W34 (Or.inl ne2)).other W43 (Or.inl ne2)).ext E385).ext E408).other W431 (Or.inl ne410)).other W437 (Or.inl ne410)).other W443 (Or.inl ne410)).keep K453 (ninS ne387 nin0))
          have f489 := (f455.keep K453)
          have f490 := (((((((((((P_F_tywP_String_value.ext E1).other W16 (Or.inl ne3)).other W25 (Or.inl ne3)).other W34 (Or.inl ne3)).other W43 (Or.inl ne3)).ext E385).ext E408).other W431 (Or.inl ne412)).other W437 (Or.inl ne412)).other W443 (Or.inl ne412)).keep K453 (ninS ne389 nin0))
          have f491 := (((((((((((P_F_tywP_String_coder.ext E1).other W16 (Or.inl ne3)).other W25 (Or.inl ne3)).other W34 (Or.inl ne3)).other W43 (Or.inl ne3)).ext E385).ext E408).other W431 (Or.inl ne412)).other W437 (Or.inl ne412)).other W443 (Or.inl ne412)).keep K453 (ninS ne389 nin0))
          have f492 := (f456.keep K453 (ninS ne391 nin0))
          have f493 := (own_staKeep ((((((((f20.wr W25).wr W34).wr W43).ext E385).ext E408).wr W431).wr W437).wr W443) K453 (nsS f448.nostat ns0))
          have f494 := (f457.keep K453)
          have f495 := (((((((((((P_F_wM_Dialect_textType.ext E1).other W16 (Or.inl ne5)).other W25 (Or.inl ne5)).other W34 (Or.inl ne5)).other W43 (Or.inl ne5)).ext E385).ext E408).other W431 (Or.inl ne416)).other W437 (Or.inl ne416)).other W443 (Or.inl ne416)).keep K453 (ninS ne393 nin0))
          have f496 := (own_staKeep (((((((f29.wr W34).wr W43).ext E385).ext E408).wr W431).wr W437).wr W443) K453 (nsS f448.nostat ns0))
          have f497 := (f458.keep K453)
          have f498 := (((((((((((P_F_wH_Dialect_textType.ext E1).other W16 (Or.inl ne6)).other W25 (Or.inl ne6)).other W34 (Or.inl ne6)).other W43 (Or.inl ne6)).ext E385).ext E408).other W431 (Or.inl ne418)).other W437 (Or.inl ne418)).other W443 (Or.inl ne418)).keep K453 (ninS ne395 nin0))
          have f499 := (f459.keep K453)
          have f500 := (((((((((((P_F_tywH_String_value.ext E1).other W16 (Or.inl ne7)).other W25 (Or.inl ne7)).other W34 (Or.inl ne7)).other W43 (Or.inl ne7)).ext E385).ext E408).other W431 (Or.inl ne420)).other W437 (Or.inl ne420)).other W443 (Or.inl ne420)).keep K453 (ninS ne397 nin0))
          have f501 := (((((((((((P_F_tywH_String_coder.ext E1).other W16 (Or.inl ne7)).other W25 (Or.inl ne7)).other W34 (Or.inl ne7)).other W43 (Or.inl ne7)).ext E385).ext E408).other W431 (Or.inl ne420)).other W437 (Or.inl ne420)).other W443 (Or.inl ne420)).keep K453 (ninS ne397 nin0))
          have f502 := (f460.keep K453 (ninS ne399 nin0))
          have f503 := (own_staKeep ((((((f38.wr W43).ext E385).ext E408).wr W431).wr W437).wr W443) K453 (nsS f448.nostat ns0))
          have f504 := (f461.keep K453)
          have f505 := (((((((((((P_F_wQ_Dialect_textType.ext E1).other W16 (Or.inl ne9)).other W25 (Or.inl ne9)).other W34 (Or.inl ne9)).other W43 (Or.inl ne9)).ext E385).ext E408).other W431 (Or.inl ne424)).other W437 (Or.inl ne424)).other W443 (Or.inl ne424)).keep K453 (ninS ne401 nin0))
          have f506 := (Nat.le_trans (Nat.le_trans (Nat.le_trans (Nat.le_trans (Nat.le_trans (Nat.le_trans (Nat.le_trans (Nat.le_trans (Nat.le_trans (Nat.le_trans (Nat.le_trans (Nat.le_refl h0.size) E1.1) (Keep.of_wr W16).1) (Keep.of_wr W25).1) (Keep.of_wr W34).1) (Keep.of_wr W43).1) E385.1) E408.1) (Keep.of_wr W431).1) (Keep.of_wr W437).1) (Keep.of_wr W443).1) K453.1)
          have f507 : Safe Z own_EL s.vm T453.heap b1 := (Safe.keep K453 (sfS f463 sf0) CH444.1 (Safe.wr W443 f441 CH438.1 (Safe.wr W437 f435 CH432.1 (Safe.wr W431 Yb429 CH428.1 (Safe.ext E408 CH403.1 (Safe.ext E385 CH44.1 (Safe.wr W43 f41 CH35.1 f41)))))))
          have f508 := (f462.keep K453 (ninS ne402 nin0))
          exact ⟨T453, _, b385, s.vm, h0.size, b385, t_453, kt_453, [(.int (own_by c0)), (.int (own_by c1)), (.int (own_by c2))], X453.more (by decide) (by decide), N453, KK453, CH481, f483, f484, f485, f486, f487, f488, f489, f490, f491, f492, f493, f494, f495, f496, f497, f498, f499, f500, f501, f502, f503, f504, f505, f506, f507, f508, hZ, hown, hS0, f464, f465, f466, (by rw [(own_n3e hnn hc67_48 hc88_148 hc114_263)]; exact f468), (own_clh3 (own_n3e hnn hc67_48 hc88_148 hc114_263)), rfl, pre482⟩
  obtain ⟨T509, L509, x509_L11, vm509, kx509, sgx, tx, ktx, vsx, X509, N509, K509, CH509, f510, f511, f512, f513, f514, f515, f516, f517, f518, f519, f520, f521, f522, f523, f524, f525, f526, f527, f528, f529, f530, f531, f532, f533, f534, f535, hZ509, hown509, hS509, f536, f537, f538, f539, whc, mq509_L11, pre509⟩ := Mg509
  rw [mq509_L11] at pre509
  have pre540 : ∀ t, Steps p.tables e below (T509.setTop (mkF m 173 #[iv p0, iv p1, iv p2, iv p3, iv p4, rv b1, iv kk, iv nn, iv c0, iv c1, iv c2, rv sgx, .unset, .unset, .unset, .unset, .unset, .unset] [(.int kk), (.ref b1)])) t → Steps p.tables e below (s₁.setTop (entryFrame m #[(.int p0), (.int p1), (.int p2), (.int p3), (.int p4)] maxLocals)) t := fun t kt => pre509 t (by
   refine XS.aload X509.here hx rfl (hb hby at_169) rfl rfl ?_
   refine XS.iload X509.here hx rfl (hb hby at_171) rfl ?_
   exact kt)
  rcases hkk with hi | hi | hi | hi
  · rw [hi] at pre540
    obtain ⟨cl541, Ar541, qq541, S541, N541_, H541, G541⟩ := id f535
    have hin541 : ¬ ((0 : Int32) < 0 ∨ cl541.slots.size ≤ ((0 : Int32)).toNatClampNeg) := inb_of S541 ⟨by decide, by decide⟩
    have hat541 : cl541.slots[((0 : Int32)).toNatClampNeg]? = some (.ref wP) := H541.at hin541 rfl
    have pre542 : ∀ t, Steps p.tables e below (T509.setTop (mkF m 176 #[iv p0, iv p1, iv p2, iv p3, iv p4, rv b1, iv (0 : Int32), iv nn, iv c0, iv c1, iv c2, rv sgx, .unset, .unset, .unset, .unset, .unset, .unset] [(.ref sgx), (.ref wP)])) t → Steps p.tables e below (s₁.setTop (entryFrame m #[(.int p0), (.int p1), (.int p2), (.int p3), (.int p4)] maxLocals)) t := fun t kt => pre540 t (by
     refine X509.aaload hx (j := (0 : Int32)) (v := (.ref wP)) Ar541.1 (State.isArrayOf_alike hZ509.alike Ar541.2.1) rfl Ar541.2.2 hin541 hat541 (g := (mkF m 173 #[iv p0, iv p1, iv p2, iv p3, iv p4, rv b1, iv (0 : Int32), iv nn, iv c0, iv c1, iv c2, rv sgx, .unset, .unset, .unset, .unset, .unset, .unset] [(.int (0 : Int32)), (.ref b1)])) rfl rfl (hb hby at_173) _ ?_
     refine XS.aload X509.here hx rfl (hb hby at_174) rfl rfl ?_
     exact kt)
    obtain ⟨cq544, kq544, q544a, q544b, q544c⟩ := isOf hZ509 rfl f514
    obtain ⟨_, _, ⟨T543, L543, k543, n543⟩, -, Xw543, hSw543, gr543, ⟨Lc543, hQ543, l543, y543, z543, CHq543⟩, st543⟩ := X509.virtualBackS hx (y := own_y35) (z := own_y35) hown509 (mvT hZ509 (own_g hw 42 rfl)) (mvT hZ509 (own_g hw 43 rfl)) (notFace_of_selects (args := #[]) (mvT hZ509 (own_g hw 45 rfl))) (mvT hZ509 (own_g hw 45 rfl)) (mvT hZ509 (own_g hw 44 rfl)) (by decide) (backOfSH (W := 0) (rmT1 l Z a0 hw [] wP sgx tywP twwP kwwP (4 : Int32) [(.int (116 : Int32)), (.int (101 : Int32)), (.int (120 : Int32)), (.int (116 : Int32))] tx ktx nn vsx (own_cl nn c0 c1 c2) ([116, 101, 120, 116] : List Int32) zC T509.heap n0 f510 f514 f515 f516 f517 f518 f519 f536 f537 f538 f539 f511 hz whc (own_cln hnn) (own_hasL rfl) (by unfold own_len; rfl) (own_clk hnn) (Nat.le_of_ble_eq_true rfl)) hZ509 (own_g hw 46 rfl) (own_g hw 3 rfl) (by decide) (by decide) hEL CH509.1) q544a q544c (g := (mkF m 176 #[iv p0, iv p1, iv p2, iv p3, iv p4, rv b1, iv (0 : Int32), iv nn, iv c0, iv c1, iv c2, rv sgx, .unset, .unset, .unset, .unset, .unset, .unset] [(.ref sgx), (.ref wP)])) rfl (by rw [hml]; rfl) (Steps.refl _) (argsL := [(.ref sgx)]) (rest := []) (lenOf pd__Ljava_lang_String__Ljava_lang_String_ rfl) rfl (by show 2 * 0 + _ ≤ _; exact Nat.le_of_eq rfl) (hb hby at_176) (fun _ _ => ⟨rfl, rfl, (by decide : 7 + 15 ≤ _), (by decide : 16 + 280 ≤ _)⟩)
    dsimp only [Pt.U, Pt.locs, Pt.cells, Pt.slots] at Xw543 hSw543 gr543 l543 y543 z543 st543 hQ543 CHq543
    subst l543 y543 z543
    obtain ⟨X543, hS543, hZ543, hown543⟩ := rebS hS509 f533 Xw543 hSw543 gr543 hZ509 hown509
    obtain ⟨sg_543, yv_543, ky_543, zl_543, ys_543, rfl, N543q, K543, sx543_0, sx543_1, px543_0, f545, f546, f547, f548, f549, f550⟩ := hQ543
    have osg_543 : n0 ≤ sg_543 := Nat.le_trans f510 sx543_0
    have zsg_543 : h0.size ≤ sg_543 := Nat.le_trans K509.1 sx543_0
    have ne551 : sgx ≠ sg_543 := Nat.ne_of_lt (Nat.lt_of_lt_of_le f536.lt sx543_0)
    have ne552 : tx ≠ sg_543 := Nat.ne_of_lt (Nat.lt_of_lt_of_le f539.lt sx543_0)
    have ne553 : wP ≠ sg_543 := Nat.ne_of_lt (Nat.lt_of_lt_of_le f514.lt sx543_0)
    have ne554 : tywP ≠ sg_543 := Nat.ne_of_lt (Nat.lt_of_lt_of_le f516.lt sx543_0)
    have ne555 : twwP ≠ sg_543 := Nat.ne_of_lt (Nat.lt_of_lt_of_le f519.lt sx543_0)
    have ne556 : wM ≠ sg_543 := Nat.ne_of_lt (Nat.lt_of_lt_of_le f521.lt sx543_0)
    have ne557 : wH ≠ sg_543 := Nat.ne_of_lt (Nat.lt_of_lt_of_le f524.lt sx543_0)
    have ne558 : tywH ≠ sg_543 := Nat.ne_of_lt (Nat.lt_of_lt_of_le f526.lt sx543_0)
    have ne559 : twwH ≠ sg_543 := Nat.ne_of_lt (Nat.lt_of_lt_of_le f529.lt sx543_0)
    have ne560 : wQ ≠ sg_543 := Nat.ne_of_lt (Nat.lt_of_lt_of_le f531.lt sx543_0)
    have ne561 : b1 ≠ sg_543 := Nat.ne_of_lt (Nat.lt_of_lt_of_le f535.lt sx543_0)
    have oyv_543 : n0 ≤ yv_543 := Nat.le_trans f510 sx543_1
    have zyv_543 : h0.size ≤ yv_543 := Nat.le_trans K509.1 sx543_1
    have ne562 : sgx ≠ yv_543 := Nat.ne_of_lt (Nat.lt_of_lt_of_le f536.lt sx543_1)
    have ne563 : tx ≠ yv_543 := Nat.ne_of_lt (Nat.lt_of_lt_of_le f539.lt sx543_1)
    have ne564 : wP ≠ yv_543 := Nat.ne_of_lt (Nat.lt_of_lt_of_le f514.lt sx543_1)
    have ne565 : tywP ≠ yv_543 := Nat.ne_of_lt (Nat.lt_of_lt_of_le f516.lt sx543_1)
    have ne566 : twwP ≠ yv_543 := Nat.ne_of_lt (Nat.lt_of_lt_of_le f519.lt sx543_1)
    have ne567 : wM ≠ yv_543 := Nat.ne_of_lt (Nat.lt_of_lt_of_le f521.lt sx543_1)
    have ne568 : wH ≠ yv_543 := Nat.ne_of_lt (Nat.lt_of_lt_of_le f524.lt sx543_1)
    have ne569 : tywH ≠ yv_543 := Nat.ne_of_lt (Nat.lt_of_lt_of_le f526.lt sx543_1)
    have ne570 : twwH ≠ yv_543 := Nat.ne_of_lt (Nat.lt_of_lt_of_le f529.lt sx543_1)
    have ne571 : wQ ≠ yv_543 := Nat.ne_of_lt (Nat.lt_of_lt_of_le f531.lt sx543_1)
    have ne572 : b1 ≠ yv_543 := Nat.ne_of_lt (Nat.lt_of_lt_of_le f535.lt sx543_1)
    have KK543 : Keep h0 T543.heap [] := Keep.trans K509 K543 all0
    have CH573 : CHr Z own_EL s.vm h0 T543.vm T543.heap := CH509.trans CHq543
    have Yr574 : Safe Z own_EL T543.vm T543.heap b1 := CHr.safe CHq543 f535.lt f534
    have N543 := Fr.app N509 N543q
    have pre575 : ∀ t, Steps p.tables e below (T543.setTop (mkF m 235 #[iv p0, iv p1, iv p2, iv p3, iv p4, rv b1, iv (0 : Int32), iv nn, iv c0, iv c1, iv c2, rv sgx, rv sg_543, iv (1 : Int32), iv (4 : Int32), .unset, .unset, .unset] [(.ref sg_543)])) t → Steps p.tables e below (s₁.setTop (entryFrame m #[(.int p0), (.int p1), (.int p2), (.int p3), (.int p4)] maxLocals)) t := fun t kt => pre542 t (by
     show Steps _ _ _ (T509.setTop (mkF m 176 #[iv p0, iv p1, iv p2, iv p3, iv p4, rv b1, iv (0 : Int32), iv nn, iv c0, iv c1, iv c2, rv sgx, .unset, .unset, .unset, .unset, .unset, .unset] [(.ref sgx), (.ref wP)])) _
     refine st543.trans ?_
     refine XS.astore X543.here hx rfl (hb hby at_179) rfl rfl (l' := #[iv p0, iv p1, iv p2, iv p3, iv p4, rv b1, iv (0 : Int32), iv nn, iv c0, iv c1, iv c2, rv sgx, rv sg_543, .unset, .unset, .unset, .unset, .unset]) rfl ?_
     refine XS.aload X543.here hx rfl (hb hby at_181) rfl rfl ?_
     refine XS.ifnonnullYes X543.here hx rfl (pc0 := 183) (pc' := 188) rfl (hb hby at_183) rfl (by decide) (by decide) ?_
     refine XS.iload X543.here hx rfl (hb hby at_188) rfl ?_
     refine XS.iconst X543.here hx rfl (hb hby at_190) ?_
     refine XS.icmpNo X543.here hx rfl (hb hby at_191) rfl (feq (by decide : ¬ ((0 : Int32) = (1 : Int32)))).1 ?_
     refine XS.iload X543.here hx rfl (hb hby at_194) rfl ?_
     refine XS.iconst X543.here hx rfl (hb hby at_196) ?_
     refine XS.icmpYes X543.here hx rfl (pc0 := 197) (pc' := 208) rfl (hb hby at_197) rfl (feq (by decide : ¬ ((0 : Int32) = (3 : Int32)))).2 (by decide) (by decide) ?_
     refine XS.iload X543.here hx rfl (hb hby at_208) rfl ?_
     refine XS.ifNo X543.here hx rfl (hb hby at_210) rfl ((if0 _ _).trans (teq (by decide : (0 : Int32) = (0 : Int32))).2) ?_
     refine XS.iconst X543.here hx rfl (hb hby at_213) ?_
     refine XS.goto X543.here hx rfl (pc0 := 214) (pc' := 218) rfl (hb hby at_214) (by decide) (by decide) ?_
     refine XS.istore X543.here hx rfl (hb hby at_218) rfl (l' := #[iv p0, iv p1, iv p2, iv p3, iv p4, rv b1, iv (0 : Int32), iv nn, iv c0, iv c1, iv c2, rv sgx, rv sg_543, iv (1 : Int32), .unset, .unset, .unset, .unset]) rfl ?_
     refine XS.iload X543.here hx rfl (hb hby at_220) rfl ?_
     show Steps _ _ _ (T543.setTop (mkF m 222 #[iv p0, iv p1, iv p2, iv p3, iv p4, rv b1, iv (0 : Int32), iv nn, iv c0, iv c1, iv c2, rv sgx, rv sg_543, iv (1 : Int32), .unset, .unset, .unset, .unset] [(.int (1 : Int32))])) _
     refine XS.ifNo X543.here hx rfl (hb hby at_222) rfl ((if0 _ _).trans (feq (by decide : ¬ ((1 : Int32) = (0 : Int32)))).1) ?_
     refine XS.iconst X543.here hx rfl (hb hby at_225) ?_
     refine XS.goto X543.here hx rfl (pc0 := 226) (pc' := 231) rfl (hb hby at_226) (by decide) (by decide) ?_
     refine XS.istore X543.here hx rfl (hb hby at_231) rfl (l' := #[iv p0, iv p1, iv p2, iv p3, iv p4, rv b1, iv (0 : Int32), iv nn, iv c0, iv c1, iv c2, rv sgx, rv sg_543, iv (1 : Int32), iv (4 : Int32), .unset, .unset, .unset]) rfl ?_
     refine XS.aload X543.here hx rfl (hb hby at_233) rfl rfl ?_
     exact kt)
    have f576 := (own_staKeep f511 K543 ns0)
    have f577 := (Nat.le_trans f510 K543.1)
    obtain ⟨cq579, kq579, q579a, q579b, q579c⟩ := isOf hZ543 rfl f545
    obtain ⟨_, _, ⟨T578, L578, k578, n578⟩, -, X578, ⟨Lc578, hQ578, l578, y578, z578⟩, st578⟩ := X543.virtualBack hx (y := own_y2) (z := own_y2) hown543 (mvT hZ543 (own_g hw 181 rfl)) (mvT hZ543 (own_g hw 81 rfl)) (notFace_of_selects (args := #[]) (mvT hZ543 (own_g hw 83 rfl))) (mvT hZ543 (own_g hw 83 rfl)) (mvT hZ543 (own_g hw 82 rfl)) (by decide) (backOf (W := 0) (rmLe l Z a0 hw [] sg_543 yv_543 ky_543 zl_543 ys_543 zC T543.heap n0 f577 f545 f546 f547 f548 f576 hz) hZ543 (own_g hw 84 rfl) (own_g hw 14 rfl) (by decide) (by decide)) q579a q579c (g := (mkF m 235 #[iv p0, iv p1, iv p2, iv p3, iv p4, rv b1, iv (0 : Int32), iv nn, iv c0, iv c1, iv c2, rv sgx, rv sg_543, iv (1 : Int32), iv (4 : Int32), .unset, .unset, .unset] [(.ref sg_543)])) rfl (by rw [hml]; rfl) (Steps.refl _) (argsL := []) (rest := []) (lenOf pd___I rfl) rfl (by show 2 * 0 + _ ≤ _; exact Nat.le_of_eq rfl) (hb hby at_235) (fun _ _ => ⟨rfl, rfl, (by decide : 22 + 0 ≤ _), (by decide : 296 + 0 ≤ _)⟩)
    dsimp only [Pt.U, Pt.locs, Pt.cells, Pt.slots] at X578 l578 y578 z578 st578 hQ578
    subst l578 y578 z578
    obtain ⟨rfl, N578q, e578⟩ := hQ578
    have N578 := Fr.app N543 N578q
    have pre580 : ∀ t, Steps p.tables e below (T578.setTop (mkF m 266 #[iv p0, iv p1, iv p2, iv p3, iv p4, rv b1, iv (0 : Int32), iv nn, iv c0, iv c1, iv c2, rv sgx, rv sg_543, iv (1 : Int32), iv (4 : Int32), iv (1 : Int32), .unset, .unset] [(.int (67 : Int32)), (.int (0 : Int32)), (.ref sg_543)])) t → Steps p.tables e below (s₁.setTop (entryFrame m #[(.int p0), (.int p1), (.int p2), (.int p3), (.int p4)] maxLocals)) t := fun t kt => pre575 t (by
     show Steps _ _ _ (T543.setTop (mkF m 235 #[iv p0, iv p1, iv p2, iv p3, iv p4, rv b1, iv (0 : Int32), iv nn, iv c0, iv c1, iv c2, rv sgx, rv sg_543, iv (1 : Int32), iv (4 : Int32), .unset, .unset, .unset] [(.ref sg_543)])) _
     refine st578.trans ?_
     refine XS.bipush X578.here hx rfl (hb hby at_238) ?_
     refine XS.iload X578.here hx rfl (hb hby at_240) rfl ?_
     refine XS.iadd X578.here hx rfl (hb hby at_242) rfl ?_
     refine XS.iload X578.here hx rfl (hb hby at_243) rfl ?_
     refine XS.iadd X578.here hx rfl (hb hby at_245) rfl ?_
     refine XS.icmpNo X578.here hx rfl (hb hby at_246) rfl (teq (by rcases hnn with h | h | h | h <;> subst h <;> exact own_lz f550 rfl)).2 ?_
     refine XS.iconst X578.here hx rfl (hb hby at_249) ?_
     refine XS.goto X578.here hx rfl (pc0 := 250) (pc' := 254) rfl (hb hby at_250) (by decide) (by decide) ?_
     refine XS.istore X578.here hx rfl (hb hby at_254) rfl (l' := #[iv p0, iv p1, iv p2, iv p3, iv p4, rv b1, iv (0 : Int32), iv nn, iv c0, iv c1, iv c2, rv sgx, rv sg_543, iv (1 : Int32), iv (4 : Int32), iv (1 : Int32), .unset, .unset]) rfl ?_
     refine XS.iload X578.here hx rfl (hb hby at_256) rfl ?_
     refine XS.ifNo X578.here hx rfl (hb hby at_258) rfl ((if0 _ _).trans (feq (by decide : ¬ ((1 : Int32) = (0 : Int32)))).1) ?_
     refine XS.aload X578.here hx rfl (hb hby at_261) rfl rfl ?_
     refine XS.iconst X578.here hx rfl (hb hby at_263) ?_
     refine XS.bipush X578.here hx rfl (hb hby at_264) ?_
     exact kt)
    have f581 := (own_staKeep f512 K543 ns0)
    obtain ⟨_, _, ⟨T582, L582, k582, n582⟩, -, X582, ⟨Lc582, hQ582, l582, y582, z582⟩, st582⟩ := Jvm.LawKit.callS X578 hx (y := own_y36) hown543 (mvT hZ543 (own_g hw 182 rfl)) (mvT hZ543 (own_g hw 183 rfl)) (mvT hZ543 (own_g hw 184 rfl)) (mvT hZ543 (own_g hw 185 rfl)) (by decide) (backOf (W := 0) (rmEq l Z a0 hw [] sg_543 (0 : Int32) (67 : Int32) yv_543 ky_543 zl_543 ys_543 zC fv T543.heap n0 f577 f545 f546 f547 f548 f576 hz f581 hfv (by decide) (by rcases hnn with h | h | h | h <;> subst h <;> exact own_il f550 (by decide) (Nat.le_of_ble_eq_true rfl)) (by rcases hnn with h | h | h | h <;> subst h <;> exact own_eqc f549 (Nat.le_of_ble_eq_true rfl) (show nar .char (own_ch (67 : Int32)) = (67 : Int32) from by decide))) hZ543 (own_g hw 185 rfl) (own_g hw 184 rfl) (by decide) (by decide)) (g := (mkF m 266 #[iv p0, iv p1, iv p2, iv p3, iv p4, rv b1, iv (0 : Int32), iv nn, iv c0, iv c1, iv c2, rv sgx, rv sg_543, iv (1 : Int32), iv (4 : Int32), iv (1 : Int32), .unset, .unset] [(.int (67 : Int32)), (.int (0 : Int32)), (.ref sg_543)])) rfl (by rw [hml]; rfl) (argsL := [(.ref sg_543), (.int (0 : Int32)), (.int (67 : Int32))]) (rest := []) (lenOf pd__Ljava_lang_String_IC_Z rfl) rfl (by show 2 * 0 + _ ≤ _; exact Nat.le_of_eq rfl) (hb hby at_266) (fun _ _ => ⟨rfl, e578, (by decide : 22 + 0 ≤ _), (by decide : 296 + 0 ≤ _)⟩)
    dsimp only [Pt.U, Pt.locs, Pt.cells, Pt.slots] at X582 l582 y582 z582 st582 hQ582
    subst l582 y582 z582
    obtain ⟨rfl, N582q, e582⟩ := hQ582
    have N582 := Fr.app N578 N582q
    have pre583 : ∀ t, Steps p.tables e below (T582.setTop (mkF m 277 #[iv p0, iv p1, iv p2, iv p3, iv p4, rv b1, iv (0 : Int32), iv nn, iv c0, iv c1, iv c2, rv sgx, rv sg_543, iv (1 : Int32), iv (4 : Int32), iv (1 : Int32), .unset, .unset] [(.int (65 : Int32)), (.int (1 : Int32)), (.ref sg_543)])) t → Steps p.tables e below (s₁.setTop (entryFrame m #[(.int p0), (.int p1), (.int p2), (.int p3), (.int p4)] maxLocals)) t := fun t kt => pre580 t (by
     show Steps _ _ _ (T578.setTop (mkF m 266 #[iv p0, iv p1, iv p2, iv p3, iv p4, rv b1, iv (0 : Int32), iv nn, iv c0, iv c1, iv c2, rv sgx, rv sg_543, iv (1 : Int32), iv (4 : Int32), iv (1 : Int32), .unset, .unset] [(.int (67 : Int32)), (.int (0 : Int32)), (.ref sg_543)])) _
     refine st582 _ ?_
     refine XS.ifNo X582.here hx rfl (hb hby at_269) rfl ((if0 _ _).trans (feq (by decide : ¬ ((1 : Int32) = (0 : Int32)))).1) ?_
     refine XS.aload X582.here hx rfl (hb hby at_272) rfl rfl ?_
     refine XS.iconst X582.here hx rfl (hb hby at_274) ?_
     refine XS.bipush X582.here hx rfl (hb hby at_275) ?_
     exact kt)
    obtain ⟨_, _, ⟨T584, L584, k584, n584⟩, -, X584, ⟨Lc584, hQ584, l584, y584, z584⟩, st584⟩ := Jvm.LawKit.callS X582 hx (y := own_y36) hown543 (mvT hZ543 (own_g hw 182 rfl)) (mvT hZ543 (own_g hw 183 rfl)) (mvT hZ543 (own_g hw 184 rfl)) (mvT hZ543 (own_g hw 185 rfl)) (by decide) (backOf (W := 0) (rmEq l Z a0 hw [] sg_543 (1 : Int32) (65 : Int32) yv_543 ky_543 zl_543 ys_543 zC fv T543.heap n0 f577 f545 f546 f547 f548 f576 hz f581 hfv (by decide) (by rcases hnn with h | h | h | h <;> subst h <;> exact own_il f550 (by decide) (Nat.le_of_ble_eq_true rfl)) (by rcases hnn with h | h | h | h <;> subst h <;> exact own_eqc f549 (Nat.le_of_ble_eq_true rfl) (show nar .char (own_ch (65 : Int32)) = (65 : Int32) from by decide))) hZ543 (own_g hw 185 rfl) (own_g hw 184 rfl) (by decide) (by decide)) (g := (mkF m 277 #[iv p0, iv p1, iv p2, iv p3, iv p4, rv b1, iv (0 : Int32), iv nn, iv c0, iv c1, iv c2, rv sgx, rv sg_543, iv (1 : Int32), iv (4 : Int32), iv (1 : Int32), .unset, .unset] [(.int (65 : Int32)), (.int (1 : Int32)), (.ref sg_543)])) rfl (by rw [hml]; rfl) (argsL := [(.ref sg_543), (.int (1 : Int32)), (.int (65 : Int32))]) (rest := []) (lenOf pd__Ljava_lang_String_IC_Z rfl) rfl (by show 2 * 0 + _ ≤ _; exact Nat.le_of_eq rfl) (hb hby at_277) (fun _ _ => ⟨rfl, e582, (by decide : 22 + 0 ≤ _), (by decide : 296 + 0 ≤ _)⟩)
    dsimp only [Pt.U, Pt.locs, Pt.cells, Pt.slots] at X584 l584 y584 z584 st584 hQ584
    subst l584 y584 z584
    obtain ⟨rfl, N584q, e584⟩ := hQ584
    have N584 := Fr.app N582 N584q
    have pre585 : ∀ t, Steps p.tables e below (T584.setTop (mkF m 288 #[iv p0, iv p1, iv p2, iv p3, iv p4, rv b1, iv (0 : Int32), iv nn, iv c0, iv c1, iv c2, rv sgx, rv sg_543, iv (1 : Int32), iv (4 : Int32), iv (1 : Int32), .unset, .unset] [(.int (83 : Int32)), (.int (2 : Int32)), (.ref sg_543)])) t → Steps p.tables e below (s₁.setTop (entryFrame m #[(.int p0), (.int p1), (.int p2), (.int p3), (.int p4)] maxLocals)) t := fun t kt => pre583 t (by
     show Steps _ _ _ (T582.setTop (mkF m 277 #[iv p0, iv p1, iv p2, iv p3, iv p4, rv b1, iv (0 : Int32), iv nn, iv c0, iv c1, iv c2, rv sgx, rv sg_543, iv (1 : Int32), iv (4 : Int32), iv (1 : Int32), .unset, .unset] [(.int (65 : Int32)), (.int (1 : Int32)), (.ref sg_543)])) _
     refine st584 _ ?_
     refine XS.ifNo X584.here hx rfl (hb hby at_280) rfl ((if0 _ _).trans (feq (by decide : ¬ ((1 : Int32) = (0 : Int32)))).1) ?_
     show Steps _ _ _ (T584.setTop (mkF m 283 #[iv p0, iv p1, iv p2, iv p3, iv p4, rv b1, iv (0 : Int32), iv nn, iv c0, iv c1, iv c2, rv sgx, rv sg_543, iv (1 : Int32), iv (4 : Int32), iv (1 : Int32), .unset, .unset] [])) _
     refine XS.aload X584.here hx rfl (hb hby at_283) rfl rfl ?_
     refine XS.iconst X584.here hx rfl (hb hby at_285) ?_
     refine XS.bipush X584.here hx rfl (hb hby at_286) ?_
     exact kt)
    obtain ⟨_, _, ⟨T586, L586, k586, n586⟩, -, X586, ⟨Lc586, hQ586, l586, y586, z586⟩, st586⟩ := Jvm.LawKit.callS X584 hx (y := own_y36) hown543 (mvT hZ543 (own_g hw 182 rfl)) (mvT hZ543 (own_g hw 183 rfl)) (mvT hZ543 (own_g hw 184 rfl)) (mvT hZ543 (own_g hw 185 rfl)) (by decide) (backOf (W := 0) (rmEq l Z a0 hw [] sg_543 (2 : Int32) (83 : Int32) yv_543 ky_543 zl_543 ys_543 zC fv T543.heap n0 f577 f545 f546 f547 f548 f576 hz f581 hfv (by decide) (by rcases hnn with h | h | h | h <;> subst h <;> exact own_il f550 (by decide) (Nat.le_of_ble_eq_true rfl)) (by rcases hnn with h | h | h | h <;> subst h <;> exact own_eqc f549 (Nat.le_of_ble_eq_true rfl) (show nar .char (own_ch (83 : Int32)) = (83 : Int32) from by decide))) hZ543 (own_g hw 185 rfl) (own_g hw 184 rfl) (by decide) (by decide)) (g := (mkF m 288 #[iv p0, iv p1, iv p2, iv p3, iv p4, rv b1, iv (0 : Int32), iv nn, iv c0, iv c1, iv c2, rv sgx, rv sg_543, iv (1 : Int32), iv (4 : Int32), iv (1 : Int32), .unset, .unset] [(.int (83 : Int32)), (.int (2 : Int32)), (.ref sg_543)])) rfl (by rw [hml]; rfl) (argsL := [(.ref sg_543), (.int (2 : Int32)), (.int (83 : Int32))]) (rest := []) (lenOf pd__Ljava_lang_String_IC_Z rfl) rfl (by show 2 * 0 + _ ≤ _; exact Nat.le_of_eq rfl) (hb hby at_288) (fun _ _ => ⟨rfl, e584, (by decide : 22 + 0 ≤ _), (by decide : 296 + 0 ≤ _)⟩)
    dsimp only [Pt.U, Pt.locs, Pt.cells, Pt.slots] at X586 l586 y586 z586 st586 hQ586
    subst l586 y586 z586
    obtain ⟨rfl, N586q, e586⟩ := hQ586
    have N586 := Fr.app N584 N586q
    have pre587 : ∀ t, Steps p.tables e below (T586.setTop (mkF m 299 #[iv p0, iv p1, iv p2, iv p3, iv p4, rv b1, iv (0 : Int32), iv nn, iv c0, iv c1, iv c2, rv sgx, rv sg_543, iv (1 : Int32), iv (4 : Int32), iv (1 : Int32), .unset, .unset] [(.int (84 : Int32)), (.int (3 : Int32)), (.ref sg_543)])) t → Steps p.tables e below (s₁.setTop (entryFrame m #[(.int p0), (.int p1), (.int p2), (.int p3), (.int p4)] maxLocals)) t := fun t kt => pre585 t (by
     show Steps _ _ _ (T584.setTop (mkF m 288 #[iv p0, iv p1, iv p2, iv p3, iv p4, rv b1, iv (0 : Int32), iv nn, iv c0, iv c1, iv c2, rv sgx, rv sg_543, iv (1 : Int32), iv (4 : Int32), iv (1 : Int32), .unset, .unset] [(.int (83 : Int32)), (.int (2 : Int32)), (.ref sg_543)])) _
     refine st586 _ ?_
     refine XS.ifNo X586.here hx rfl (hb hby at_291) rfl ((if0 _ _).trans (feq (by decide : ¬ ((1 : Int32) = (0 : Int32)))).1) ?_
     refine XS.aload X586.here hx rfl (hb hby at_294) rfl rfl ?_
     refine XS.iconst X586.here hx rfl (hb hby at_296) ?_
     refine XS.bipush X586.here hx rfl (hb hby at_297) ?_
     exact kt)
    obtain ⟨_, _, ⟨T588, L588, k588, n588⟩, -, X588, ⟨Lc588, hQ588, l588, y588, z588⟩, st588⟩ := Jvm.LawKit.callS X586 hx (y := own_y36) hown543 (mvT hZ543 (own_g hw 182 rfl)) (mvT hZ543 (own_g hw 183 rfl)) (mvT hZ543 (own_g hw 184 rfl)) (mvT hZ543 (own_g hw 185 rfl)) (by decide) (backOf (W := 0) (rmEq l Z a0 hw [] sg_543 (3 : Int32) (84 : Int32) yv_543 ky_543 zl_543 ys_543 zC fv T543.heap n0 f577 f545 f546 f547 f548 f576 hz f581 hfv (by decide) (by rcases hnn with h | h | h | h <;> subst h <;> exact own_il f550 (by decide) (Nat.le_of_ble_eq_true rfl)) (by rcases hnn with h | h | h | h <;> subst h <;> exact own_eqc f549 (Nat.le_of_ble_eq_true rfl) (show nar .char (own_ch (84 : Int32)) = (84 : Int32) from by decide))) hZ543 (own_g hw 185 rfl) (own_g hw 184 rfl) (by decide) (by decide)) (g := (mkF m 299 #[iv p0, iv p1, iv p2, iv p3, iv p4, rv b1, iv (0 : Int32), iv nn, iv c0, iv c1, iv c2, rv sgx, rv sg_543, iv (1 : Int32), iv (4 : Int32), iv (1 : Int32), .unset, .unset] [(.int (84 : Int32)), (.int (3 : Int32)), (.ref sg_543)])) rfl (by rw [hml]; rfl) (argsL := [(.ref sg_543), (.int (3 : Int32)), (.int (84 : Int32))]) (rest := []) (lenOf pd__Ljava_lang_String_IC_Z rfl) rfl (by show 2 * 0 + _ ≤ _; exact Nat.le_of_eq rfl) (hb hby at_299) (fun _ _ => ⟨rfl, e586, (by decide : 22 + 0 ≤ _), (by decide : 296 + 0 ≤ _)⟩)
    dsimp only [Pt.U, Pt.locs, Pt.cells, Pt.slots] at X588 l588 y588 z588 st588 hQ588
    subst l588 y588 z588
    obtain ⟨rfl, N588q, e588⟩ := hQ588
    have N588 := Fr.app N586 N588q
    have pre589 : ∀ t, Steps p.tables e below (T588.setTop (mkF m 310 #[iv p0, iv p1, iv p2, iv p3, iv p4, rv b1, iv (0 : Int32), iv nn, iv c0, iv c1, iv c2, rv sgx, rv sg_543, iv (1 : Int32), iv (4 : Int32), iv (1 : Int32), .unset, .unset] [(.int (40 : Int32)), (.int (4 : Int32)), (.ref sg_543)])) t → Steps p.tables e below (s₁.setTop (entryFrame m #[(.int p0), (.int p1), (.int p2), (.int p3), (.int p4)] maxLocals)) t := fun t kt => pre587 t (by
     show Steps _ _ _ (T586.setTop (mkF m 299 #[iv p0, iv p1, iv p2, iv p3, iv p4, rv b1, iv (0 : Int32), iv nn, iv c0, iv c1, iv c2, rv sgx, rv sg_543, iv (1 : Int32), iv (4 : Int32), iv (1 : Int32), .unset, .unset] [(.int (84 : Int32)), (.int (3 : Int32)), (.ref sg_543)])) _
     refine st588 _ ?_
     refine XS.ifNo X588.here hx rfl (hb hby at_302) rfl ((if0 _ _).trans (feq (by decide : ¬ ((1 : Int32) = (0 : Int32)))).1) ?_
     refine XS.aload X588.here hx rfl (hb hby at_305) rfl rfl ?_
     refine XS.iconst X588.here hx rfl (hb hby at_307) ?_
     refine XS.bipush X588.here hx rfl (hb hby at_308) ?_
     exact kt)
    obtain ⟨_, _, ⟨T590, L590, k590, n590⟩, -, X590, ⟨Lc590, hQ590, l590, y590, z590⟩, st590⟩ := Jvm.LawKit.callS X588 hx (y := own_y36) hown543 (mvT hZ543 (own_g hw 182 rfl)) (mvT hZ543 (own_g hw 183 rfl)) (mvT hZ543 (own_g hw 184 rfl)) (mvT hZ543 (own_g hw 185 rfl)) (by decide) (backOf (W := 0) (rmEq l Z a0 hw [] sg_543 (4 : Int32) (40 : Int32) yv_543 ky_543 zl_543 ys_543 zC fv T543.heap n0 f577 f545 f546 f547 f548 f576 hz f581 hfv (by decide) (by rcases hnn with h | h | h | h <;> subst h <;> exact own_il f550 (by decide) (Nat.le_of_ble_eq_true rfl)) (by rcases hnn with h | h | h | h <;> subst h <;> exact own_eqc f549 (Nat.le_of_ble_eq_true rfl) (show nar .char (own_ch (40 : Int32)) = (40 : Int32) from by decide))) hZ543 (own_g hw 185 rfl) (own_g hw 184 rfl) (by decide) (by decide)) (g := (mkF m 310 #[iv p0, iv p1, iv p2, iv p3, iv p4, rv b1, iv (0 : Int32), iv nn, iv c0, iv c1, iv c2, rv sgx, rv sg_543, iv (1 : Int32), iv (4 : Int32), iv (1 : Int32), .unset, .unset] [(.int (40 : Int32)), (.int (4 : Int32)), (.ref sg_543)])) rfl (by rw [hml]; rfl) (argsL := [(.ref sg_543), (.int (4 : Int32)), (.int (40 : Int32))]) (rest := []) (lenOf pd__Ljava_lang_String_IC_Z rfl) rfl (by show 2 * 0 + _ ≤ _; exact Nat.le_of_eq rfl) (hb hby at_310) (fun _ _ => ⟨rfl, e588, (by decide : 22 + 0 ≤ _), (by decide : 296 + 0 ≤ _)⟩)
    dsimp only [Pt.U, Pt.locs, Pt.cells, Pt.slots] at X590 l590 y590 z590 st590 hQ590
    subst l590 y590 z590
    obtain ⟨rfl, N590q, e590⟩ := hQ590
    have N590 := Fr.app N588 N590q
    have pre591 : ∀ t, Steps p.tables e below (T590.setTop (mkF m 323 #[iv p0, iv p1, iv p2, iv p3, iv p4, rv b1, iv (0 : Int32), iv nn, iv c0, iv c1, iv c2, rv sgx, rv sg_543, iv (1 : Int32), iv (4 : Int32), iv (1 : Int32), .unset, .unset] [])) t → Steps p.tables e below (s₁.setTop (entryFrame m #[(.int p0), (.int p1), (.int p2), (.int p3), (.int p4)] maxLocals)) t := fun t kt => pre589 t (by
     show Steps _ _ _ (T588.setTop (mkF m 310 #[iv p0, iv p1, iv p2, iv p3, iv p4, rv b1, iv (0 : Int32), iv nn, iv c0, iv c1, iv c2, rv sgx, rv sg_543, iv (1 : Int32), iv (4 : Int32), iv (1 : Int32), .unset, .unset] [(.int (40 : Int32)), (.int (4 : Int32)), (.ref sg_543)])) _
     refine st590 _ ?_
     refine XS.ifNo X590.here hx rfl (hb hby at_313) rfl ((if0 _ _).trans (feq (by decide : ¬ ((1 : Int32) = (0 : Int32)))).1) ?_
     refine XS.iconst X590.here hx rfl (hb hby at_316) ?_
     refine XS.goto X590.here hx rfl (pc0 := 317) (pc' := 321) rfl (hb hby at_317) (by decide) (by decide) ?_
     refine XS.istore X590.here hx rfl (hb hby at_321) rfl (l' := #[iv p0, iv p1, iv p2, iv p3, iv p4, rv b1, iv (0 : Int32), iv nn, iv c0, iv c1, iv c2, rv sgx, rv sg_543, iv (1 : Int32), iv (4 : Int32), iv (1 : Int32), .unset, .unset]) rfl ?_
     exact kt)
    have Mg648 : ∃ (T648 : State) (L648 : List Loc), Stand p l e room_1 (s.setVm T543.vm) m #[(.int p0), (.int p1), (.int p2), (.int p3), (.int p4)] below meth c T648 L648 22 296 ∧ Fr n0 L648 ∧ T648.heap = T543.heap ∧ (∀ t, Steps p.tables e below (T648.setTop (mkF m 351 #[iv p0, iv p1, iv p2, iv p3, iv p4, rv b1, iv (0 : Int32), iv nn, iv c0, iv c1, iv c2, rv sgx, rv sg_543, iv (1 : Int32), iv (4 : Int32), iv (1 : Int32), .unset, .unset] [])) t → Steps p.tables e below (s₁.setTop (entryFrame m #[(.int p0), (.int p1), (.int p2), (.int p3), (.int p4)] maxLocals)) t) := by
      have pre593 : ∀ t, Steps p.tables e below (T590.setTop (mkF m 325 #[iv p0, iv p1, iv p2, iv p3, iv p4, rv b1, iv (0 : Int32), iv nn, iv c0, iv c1, iv c2, rv sgx, rv sg_543, iv (1 : Int32), iv (4 : Int32), iv (1 : Int32), .unset, .unset] [(.int nn)])) t → Steps p.tables e below (s₁.setTop (entryFrame m #[(.int p0), (.int p1), (.int p2), (.int p3), (.int p4)] maxLocals)) t := fun t kt => pre591 t (by
       refine XS.iload X590.here hx rfl (hb hby at_323) rfl ?_
       exact kt)
      by_cases hc325_592 : (0 : Int32) < nn
      · have pre594 : ∀ t, Steps p.tables e below (T590.setTop (mkF m 338 #[iv p0, iv p1, iv p2, iv p3, iv p4, rv b1, iv (0 : Int32), iv nn, iv c0, iv c1, iv c2, rv sgx, rv sg_543, iv (1 : Int32), iv (4 : Int32), iv (1 : Int32), .unset, .unset] [(.int c0), (.int (5 : Int32)), (.ref sg_543)])) t → Steps p.tables e below (s₁.setTop (entryFrame m #[(.int p0), (.int p1), (.int p2), (.int p3), (.int p4)] maxLocals)) t := fun t kt => pre593 t (by
         refine XS.ifNo X590.here hx rfl (hb hby at_325) rfl ((if0 _ _).trans (tlt hc325_592).2.2.2) ?_
         refine XS.iload X590.here hx rfl (hb hby at_328) rfl ?_
         refine XS.ifNo X590.here hx rfl (hb hby at_330) rfl ((if0 _ _).trans (feq (by decide : ¬ ((1 : Int32) = (0 : Int32)))).1) ?_
         refine XS.aload X590.here hx rfl (hb hby at_333) rfl rfl ?_
         refine XS.iconst X590.here hx rfl (hb hby at_335) ?_
         refine XS.iload X590.here hx rfl (hb hby at_336) rfl ?_
         exact kt)
        obtain ⟨_, _, ⟨T595, L595, k595, n595⟩, -, X595, ⟨Lc595, hQ595, l595, y595, z595⟩, st595⟩ := Jvm.LawKit.callS X590 hx (y := own_y36) hown543 (mvT hZ543 (own_g hw 182 rfl)) (mvT hZ543 (own_g hw 183 rfl)) (mvT hZ543 (own_g hw 184 rfl)) (mvT hZ543 (own_g hw 185 rfl)) (by decide) (backOf (W := 0) (rmEq l Z a0 hw [] sg_543 (5 : Int32) c0 yv_543 ky_543 zl_543 ys_543 zC fv T543.heap n0 f577 f545 f546 f547 f548 f576 hz f581 hfv (by decide) (by rcases hnn with h | h | h | h <;> subst h <;> first | exact absurd hc325_592 (by decide) | exact own_il f550 (by decide) (Nat.le_of_ble_eq_true rfl)) (by rcases hnn with h | h | h | h <;> subst h <;> first | exact absurd hc325_592 (by decide) | exact own_eqc f549 (Nat.le_of_ble_eq_true rfl) (own_bc hc0))) hZ543 (own_g hw 185 rfl) (own_g hw 184 rfl) (by decide) (by decide)) (g := (mkF m 338 #[iv p0, iv p1, iv p2, iv p3, iv p4, rv b1, iv (0 : Int32), iv nn, iv c0, iv c1, iv c2, rv sgx, rv sg_543, iv (1 : Int32), iv (4 : Int32), iv (1 : Int32), .unset, .unset] [(.int c0), (.int (5 : Int32)), (.ref sg_543)])) rfl (by rw [hml]; rfl) (argsL := [(.ref sg_543), (.int (5 : Int32)), (.int c0)]) (rest := []) (lenOf pd__Ljava_lang_String_IC_Z rfl) rfl (by show 2 * 0 + _ ≤ _; exact Nat.le_of_eq rfl) (hb hby at_338) (fun _ _ => ⟨rfl, e590, (by decide : 22 + 0 ≤ _), (by decide : 296 + 0 ≤ _)⟩)
        dsimp only [Pt.U, Pt.locs, Pt.cells, Pt.slots] at X595 l595 y595 z595 st595 hQ595
        subst l595 y595 z595
        obtain ⟨rfl, N595q, e595⟩ := hQ595
        have N595 := Fr.app N590 N595q
        have pre596 : ∀ t, Steps p.tables e below (T595.setTop (mkF m 351 #[iv p0, iv p1, iv p2, iv p3, iv p4, rv b1, iv (0 : Int32), iv nn, iv c0, iv c1, iv c2, rv sgx, rv sg_543, iv (1 : Int32), iv (4 : Int32), iv (1 : Int32), .unset, .unset] [])) t → Steps p.tables e below (s₁.setTop (entryFrame m #[(.int p0), (.int p1), (.int p2), (.int p3), (.int p4)] maxLocals)) t := fun t kt => pre594 t (by
         show Steps _ _ _ (T590.setTop (mkF m 338 #[iv p0, iv p1, iv p2, iv p3, iv p4, rv b1, iv (0 : Int32), iv nn, iv c0, iv c1, iv c2, rv sgx, rv sg_543, iv (1 : Int32), iv (4 : Int32), iv (1 : Int32), .unset, .unset] [(.int c0), (.int (5 : Int32)), (.ref sg_543)])) _
         refine st595 _ ?_
         refine XS.ifNo X595.here hx rfl (hb hby at_341) rfl ((if0 _ _).trans (feq (by decide : ¬ ((1 : Int32) = (0 : Int32)))).1) ?_
         refine XS.iconst X595.here hx rfl (hb hby at_344) ?_
         show Steps _ _ _ (T595.setTop (mkF m 345 #[iv p0, iv p1, iv p2, iv p3, iv p4, rv b1, iv (0 : Int32), iv nn, iv c0, iv c1, iv c2, rv sgx, rv sg_543, iv (1 : Int32), iv (4 : Int32), iv (1 : Int32), .unset, .unset] [(.int (1 : Int32))])) _
         refine XS.goto X595.here hx rfl (pc0 := 345) (pc' := 349) rfl (hb hby at_345) (by decide) (by decide) ?_
         refine XS.istore X595.here hx rfl (hb hby at_349) rfl (l' := #[iv p0, iv p1, iv p2, iv p3, iv p4, rv b1, iv (0 : Int32), iv nn, iv c0, iv c1, iv c2, rv sgx, rv sg_543, iv (1 : Int32), iv (4 : Int32), iv (1 : Int32), .unset, .unset]) rfl ?_
         exact kt)
        have f597 := (f536.keep K543)
        have f598 := (f537.keep K543 nin0)
        have f599 := (f538.keep K543 nin0)
        have f600 := (f539.keep K543 nin0)
        have f601 := (own_staKeep f513 K543 ns0)
        have f602 := (f514.keep K543)
        have f603 := (f515.keep K543 nin0)
        have f604 := (f516.keep K543)
        have f605 := (f517.keep K543 nin0)
        have f606 := (f518.keep K543 nin0)
        have f607 := (f519.keep K543 nin0)
        have f608 := (own_staKeep f520 K543 ns0)
        have f609 := (f521.keep K543)
        have f610 := (f522.keep K543 nin0)
        have f611 := (own_staKeep f523 K543 ns0)
        have f612 := (f524.keep K543)
        have f613 := (f525.keep K543 nin0)
        have f614 := (f526.keep K543)
        have f615 := (f527.keep K543 nin0)
        have f616 := (f528.keep K543 nin0)
        have f617 := (f529.keep K543 nin0)
        have f618 := (own_staKeep f530 K543 ns0)
        have f619 := (f531.keep K543)
        have f620 := (f532.keep K543 nin0)
        have f621 := (f535.keep K543 nin0)
        exact ⟨T595, _, X595.more (by decide) (by decide), N595, e595, pre596⟩
      · have pre622 : ∀ t, Steps p.tables e below (T590.setTop (mkF m 351 #[iv p0, iv p1, iv p2, iv p3, iv p4, rv b1, iv (0 : Int32), iv nn, iv c0, iv c1, iv c2, rv sgx, rv sg_543, iv (1 : Int32), iv (4 : Int32), iv (1 : Int32), .unset, .unset] [])) t → Steps p.tables e below (s₁.setTop (entryFrame m #[(.int p0), (.int p1), (.int p2), (.int p3), (.int p4)] maxLocals)) t := fun t kt => pre593 t (by
         refine XS.ifYes X590.here hx rfl (pc0 := 325) (pc' := 351) rfl (hb hby at_325) rfl ((if0 _ _).trans (flt hc325_592).2.2.2) (by decide) (by decide) ?_
         exact kt)
        have f623 := (f536.keep K543)
        have f624 := (f537.keep K543 nin0)
        have f625 := (f538.keep K543 nin0)
        have f626 := (f539.keep K543 nin0)
        have f627 := (own_staKeep f513 K543 ns0)
        have f628 := (f514.keep K543)
        have f629 := (f515.keep K543 nin0)
        have f630 := (f516.keep K543)
        have f631 := (f517.keep K543 nin0)
        have f632 := (f518.keep K543 nin0)
        have f633 := (f519.keep K543 nin0)
        have f634 := (own_staKeep f520 K543 ns0)
        have f635 := (f521.keep K543)
        have f636 := (f522.keep K543 nin0)
        have f637 := (own_staKeep f523 K543 ns0)
        have f638 := (f524.keep K543)
        have f639 := (f525.keep K543 nin0)
        have f640 := (f526.keep K543)
        have f641 := (f527.keep K543 nin0)
        have f642 := (f528.keep K543 nin0)
        have f643 := (f529.keep K543 nin0)
        have f644 := (own_staKeep f530 K543 ns0)
        have f645 := (f531.keep K543)
        have f646 := (f532.keep K543 nin0)
        have f647 := (f535.keep K543 nin0)
        exact ⟨T590, _, X590.more (by decide) (by decide), N590, e590, pre622⟩
    obtain ⟨T648, L648, X648, N648, e648, pre648⟩ := Mg648
    have Mg705 : ∃ (T705 : State) (L705 : List Loc), Stand p l e room_1 (s.setVm T543.vm) m #[(.int p0), (.int p1), (.int p2), (.int p3), (.int p4)] below meth c T705 L705 22 296 ∧ Fr n0 L705 ∧ T705.heap = T543.heap ∧ (∀ t, Steps p.tables e below (T705.setTop (mkF m 381 #[iv p0, iv p1, iv p2, iv p3, iv p4, rv b1, iv (0 : Int32), iv nn, iv c0, iv c1, iv c2, rv sgx, rv sg_543, iv (1 : Int32), iv (4 : Int32), iv (1 : Int32), .unset, .unset] [])) t → Steps p.tables e below (s₁.setTop (entryFrame m #[(.int p0), (.int p1), (.int p2), (.int p3), (.int p4)] maxLocals)) t) := by
      have pre650 : ∀ t, Steps p.tables e below (T648.setTop (mkF m 354 #[iv p0, iv p1, iv p2, iv p3, iv p4, rv b1, iv (0 : Int32), iv nn, iv c0, iv c1, iv c2, rv sgx, rv sg_543, iv (1 : Int32), iv (4 : Int32), iv (1 : Int32), .unset, .unset] [(.int (1 : Int32)), (.int nn)])) t → Steps p.tables e below (s₁.setTop (entryFrame m #[(.int p0), (.int p1), (.int p2), (.int p3), (.int p4)] maxLocals)) t := fun t kt => pre648 t (by
       refine XS.iload X648.here hx rfl (hb hby at_351) rfl ?_
       refine XS.iconst X648.here hx rfl (hb hby at_353) ?_
       exact kt)
      by_cases hc354_649 : (1 : Int32) < nn
      · have pre651 : ∀ t, Steps p.tables e below (T648.setTop (mkF m 368 #[iv p0, iv p1, iv p2, iv p3, iv p4, rv b1, iv (0 : Int32), iv nn, iv c0, iv c1, iv c2, rv sgx, rv sg_543, iv (1 : Int32), iv (4 : Int32), iv (1 : Int32), .unset, .unset] [(.int c1), (.int (6 : Int32)), (.ref sg_543)])) t → Steps p.tables e below (s₁.setTop (entryFrame m #[(.int p0), (.int p1), (.int p2), (.int p3), (.int p4)] maxLocals)) t := fun t kt => pre650 t (by
         refine XS.icmpNo X648.here hx rfl (hb hby at_354) rfl (tlt hc354_649).2.2.2 ?_
         refine XS.iload X648.here hx rfl (hb hby at_357) rfl ?_
         refine XS.ifNo X648.here hx rfl (hb hby at_359) rfl ((if0 _ _).trans (feq (by decide : ¬ ((1 : Int32) = (0 : Int32)))).1) ?_
         refine XS.aload X648.here hx rfl (hb hby at_362) rfl rfl ?_
         refine XS.bipush X648.here hx rfl (hb hby at_364) ?_
         refine XS.iload X648.here hx rfl (hb hby at_366) rfl ?_
         exact kt)
        obtain ⟨_, _, ⟨T652, L652, k652, n652⟩, -, X652, ⟨Lc652, hQ652, l652, y652, z652⟩, st652⟩ := Jvm.LawKit.callS X648 hx (y := own_y36) hown543 (mvT hZ543 (own_g hw 182 rfl)) (mvT hZ543 (own_g hw 183 rfl)) (mvT hZ543 (own_g hw 184 rfl)) (mvT hZ543 (own_g hw 185 rfl)) (by decide) (backOf (W := 0) (rmEq l Z a0 hw [] sg_543 (6 : Int32) c1 yv_543 ky_543 zl_543 ys_543 zC fv T543.heap n0 f577 f545 f546 f547 f548 f576 hz f581 hfv (by decide) (by rcases hnn with h | h | h | h <;> subst h <;> first | exact absurd hc354_649 (by decide) | exact own_il f550 (by decide) (Nat.le_of_ble_eq_true rfl)) (by rcases hnn with h | h | h | h <;> subst h <;> first | exact absurd hc354_649 (by decide) | exact own_eqc f549 (Nat.le_of_ble_eq_true rfl) (own_bc hc1))) hZ543 (own_g hw 185 rfl) (own_g hw 184 rfl) (by decide) (by decide)) (g := (mkF m 368 #[iv p0, iv p1, iv p2, iv p3, iv p4, rv b1, iv (0 : Int32), iv nn, iv c0, iv c1, iv c2, rv sgx, rv sg_543, iv (1 : Int32), iv (4 : Int32), iv (1 : Int32), .unset, .unset] [(.int c1), (.int (6 : Int32)), (.ref sg_543)])) rfl (by rw [hml]; rfl) (argsL := [(.ref sg_543), (.int (6 : Int32)), (.int c1)]) (rest := []) (lenOf pd__Ljava_lang_String_IC_Z rfl) rfl (by show 2 * 0 + _ ≤ _; exact Nat.le_of_eq rfl) (hb hby at_368) (fun _ _ => ⟨rfl, e648, (by decide : 22 + 0 ≤ _), (by decide : 296 + 0 ≤ _)⟩)
        dsimp only [Pt.U, Pt.locs, Pt.cells, Pt.slots] at X652 l652 y652 z652 st652 hQ652
        subst l652 y652 z652
        obtain ⟨rfl, N652q, e652⟩ := hQ652
        have N652 := Fr.app N648 N652q
        have pre653 : ∀ t, Steps p.tables e below (T652.setTop (mkF m 381 #[iv p0, iv p1, iv p2, iv p3, iv p4, rv b1, iv (0 : Int32), iv nn, iv c0, iv c1, iv c2, rv sgx, rv sg_543, iv (1 : Int32), iv (4 : Int32), iv (1 : Int32), .unset, .unset] [])) t → Steps p.tables e below (s₁.setTop (entryFrame m #[(.int p0), (.int p1), (.int p2), (.int p3), (.int p4)] maxLocals)) t := fun t kt => pre651 t (by
         show Steps _ _ _ (T648.setTop (mkF m 368 #[iv p0, iv p1, iv p2, iv p3, iv p4, rv b1, iv (0 : Int32), iv nn, iv c0, iv c1, iv c2, rv sgx, rv sg_543, iv (1 : Int32), iv (4 : Int32), iv (1 : Int32), .unset, .unset] [(.int c1), (.int (6 : Int32)), (.ref sg_543)])) _
         refine st652 _ ?_
         refine XS.ifNo X652.here hx rfl (hb hby at_371) rfl ((if0 _ _).trans (feq (by decide : ¬ ((1 : Int32) = (0 : Int32)))).1) ?_
         refine XS.iconst X652.here hx rfl (hb hby at_374) ?_
         refine XS.goto X652.here hx rfl (pc0 := 375) (pc' := 379) rfl (hb hby at_375) (by decide) (by decide) ?_
         refine XS.istore X652.here hx rfl (hb hby at_379) rfl (l' := #[iv p0, iv p1, iv p2, iv p3, iv p4, rv b1, iv (0 : Int32), iv nn, iv c0, iv c1, iv c2, rv sgx, rv sg_543, iv (1 : Int32), iv (4 : Int32), iv (1 : Int32), .unset, .unset]) rfl ?_
         exact kt)
        have f654 := (f536.keep K543)
        have f655 := (f537.keep K543 nin0)
        have f656 := (f538.keep K543 nin0)
        have f657 := (f539.keep K543 nin0)
        have f658 := (own_staKeep f513 K543 ns0)
        have f659 := (f514.keep K543)
        have f660 := (f515.keep K543 nin0)
        have f661 := (f516.keep K543)
        have f662 := (f517.keep K543 nin0)
        have f663 := (f518.keep K543 nin0)
        have f664 := (f519.keep K543 nin0)
        have f665 := (own_staKeep f520 K543 ns0)
        have f666 := (f521.keep K543)
        have f667 := (f522.keep K543 nin0)
        have f668 := (own_staKeep f523 K543 ns0)
        have f669 := (f524.keep K543)
        have f670 := (f525.keep K543 nin0)
        have f671 := (f526.keep K543)
        have f672 := (f527.keep K543 nin0)
        have f673 := (f528.keep K543 nin0)
        have f674 := (f529.keep K543 nin0)
        have f675 := (own_staKeep f530 K543 ns0)
        have f676 := (f531.keep K543)
        have f677 := (f532.keep K543 nin0)
        have f678 := (f535.keep K543 nin0)
        exact ⟨T652, _, X652.more (by decide) (by decide), N652, e652, pre653⟩
      · have pre679 : ∀ t, Steps p.tables e below (T648.setTop (mkF m 381 #[iv p0, iv p1, iv p2, iv p3, iv p4, rv b1, iv (0 : Int32), iv nn, iv c0, iv c1, iv c2, rv sgx, rv sg_543, iv (1 : Int32), iv (4 : Int32), iv (1 : Int32), .unset, .unset] [])) t → Steps p.tables e below (s₁.setTop (entryFrame m #[(.int p0), (.int p1), (.int p2), (.int p3), (.int p4)] maxLocals)) t := fun t kt => pre650 t (by
         refine XS.icmpYes X648.here hx rfl (pc0 := 354) (pc' := 381) rfl (hb hby at_354) rfl (flt hc354_649).2.2.2 (by decide) (by decide) ?_
         exact kt)
        have f680 := (f536.keep K543)
        have f681 := (f537.keep K543 nin0)
        have f682 := (f538.keep K543 nin0)
        have f683 := (f539.keep K543 nin0)
        have f684 := (own_staKeep f513 K543 ns0)
        have f685 := (f514.keep K543)
        have f686 := (f515.keep K543 nin0)
        have f687 := (f516.keep K543)
        have f688 := (f517.keep K543 nin0)
        have f689 := (f518.keep K543 nin0)
        have f690 := (f519.keep K543 nin0)
        have f691 := (own_staKeep f520 K543 ns0)
        have f692 := (f521.keep K543)
        have f693 := (f522.keep K543 nin0)
        have f694 := (own_staKeep f523 K543 ns0)
        have f695 := (f524.keep K543)
        have f696 := (f525.keep K543 nin0)
        have f697 := (f526.keep K543)
        have f698 := (f527.keep K543 nin0)
        have f699 := (f528.keep K543 nin0)
        have f700 := (f529.keep K543 nin0)
        have f701 := (own_staKeep f530 K543 ns0)
        have f702 := (f531.keep K543)
        have f703 := (f532.keep K543 nin0)
        have f704 := (f535.keep K543 nin0)
        exact ⟨T648, _, X648.more (by decide) (by decide), N648, e648, pre679⟩
    obtain ⟨T705, L705, X705, N705, e705, pre705⟩ := Mg705
    have Mg762 : ∃ (T762 : State) (L762 : List Loc), Stand p l e room_1 (s.setVm T543.vm) m #[(.int p0), (.int p1), (.int p2), (.int p3), (.int p4)] below meth c T762 L762 22 296 ∧ Fr n0 L762 ∧ T762.heap = T543.heap ∧ (∀ t, Steps p.tables e below (T762.setTop (mkF m 411 #[iv p0, iv p1, iv p2, iv p3, iv p4, rv b1, iv (0 : Int32), iv nn, iv c0, iv c1, iv c2, rv sgx, rv sg_543, iv (1 : Int32), iv (4 : Int32), iv (1 : Int32), .unset, .unset] [])) t → Steps p.tables e below (s₁.setTop (entryFrame m #[(.int p0), (.int p1), (.int p2), (.int p3), (.int p4)] maxLocals)) t) := by
      have pre707 : ∀ t, Steps p.tables e below (T705.setTop (mkF m 384 #[iv p0, iv p1, iv p2, iv p3, iv p4, rv b1, iv (0 : Int32), iv nn, iv c0, iv c1, iv c2, rv sgx, rv sg_543, iv (1 : Int32), iv (4 : Int32), iv (1 : Int32), .unset, .unset] [(.int (2 : Int32)), (.int nn)])) t → Steps p.tables e below (s₁.setTop (entryFrame m #[(.int p0), (.int p1), (.int p2), (.int p3), (.int p4)] maxLocals)) t := fun t kt => pre705 t (by
       refine XS.iload X705.here hx rfl (hb hby at_381) rfl ?_
       refine XS.iconst X705.here hx rfl (hb hby at_383) ?_
       exact kt)
      by_cases hc384_706 : (2 : Int32) < nn
      · have pre708 : ∀ t, Steps p.tables e below (T705.setTop (mkF m 398 #[iv p0, iv p1, iv p2, iv p3, iv p4, rv b1, iv (0 : Int32), iv nn, iv c0, iv c1, iv c2, rv sgx, rv sg_543, iv (1 : Int32), iv (4 : Int32), iv (1 : Int32), .unset, .unset] [(.int c2), (.int (7 : Int32)), (.ref sg_543)])) t → Steps p.tables e below (s₁.setTop (entryFrame m #[(.int p0), (.int p1), (.int p2), (.int p3), (.int p4)] maxLocals)) t := fun t kt => pre707 t (by
         refine XS.icmpNo X705.here hx rfl (hb hby at_384) rfl (tlt hc384_706).2.2.2 ?_
         refine XS.iload X705.here hx rfl (hb hby at_387) rfl ?_
         refine XS.ifNo X705.here hx rfl (hb hby at_389) rfl ((if0 _ _).trans (feq (by decide : ¬ ((1 : Int32) = (0 : Int32)))).1) ?_
         refine XS.aload X705.here hx rfl (hb hby at_392) rfl rfl ?_
         refine XS.bipush X705.here hx rfl (hb hby at_394) ?_
         refine XS.iload X705.here hx rfl (hb hby at_396) rfl ?_
         exact kt)
        obtain ⟨_, _, ⟨T709, L709, k709, n709⟩, -, X709, ⟨Lc709, hQ709, l709, y709, z709⟩, st709⟩ := Jvm.LawKit.callS X705 hx (y := own_y36) hown543 (mvT hZ543 (own_g hw 182 rfl)) (mvT hZ543 (own_g hw 183 rfl)) (mvT hZ543 (own_g hw 184 rfl)) (mvT hZ543 (own_g hw 185 rfl)) (by decide) (backOf (W := 0) (rmEq l Z a0 hw [] sg_543 (7 : Int32) c2 yv_543 ky_543 zl_543 ys_543 zC fv T543.heap n0 f577 f545 f546 f547 f548 f576 hz f581 hfv (by decide) (by rcases hnn with h | h | h | h <;> subst h <;> first | exact absurd hc384_706 (by decide) | exact own_il f550 (by decide) (Nat.le_of_ble_eq_true rfl)) (by rcases hnn with h | h | h | h <;> subst h <;> first | exact absurd hc384_706 (by decide) | exact own_eqc f549 (Nat.le_of_ble_eq_true rfl) (own_bc hc2))) hZ543 (own_g hw 185 rfl) (own_g hw 184 rfl) (by decide) (by decide)) (g := (mkF m 398 #[iv p0, iv p1, iv p2, iv p3, iv p4, rv b1, iv (0 : Int32), iv nn, iv c0, iv c1, iv c2, rv sgx, rv sg_543, iv (1 : Int32), iv (4 : Int32), iv (1 : Int32), .unset, .unset] [(.int c2), (.int (7 : Int32)), (.ref sg_543)])) rfl (by rw [hml]; rfl) (argsL := [(.ref sg_543), (.int (7 : Int32)), (.int c2)]) (rest := []) (lenOf pd__Ljava_lang_String_IC_Z rfl) rfl (by show 2 * 0 + _ ≤ _; exact Nat.le_of_eq rfl) (hb hby at_398) (fun _ _ => ⟨rfl, e705, (by decide : 22 + 0 ≤ _), (by decide : 296 + 0 ≤ _)⟩)
        dsimp only [Pt.U, Pt.locs, Pt.cells, Pt.slots] at X709 l709 y709 z709 st709 hQ709
        subst l709 y709 z709
        obtain ⟨rfl, N709q, e709⟩ := hQ709
        have N709 := Fr.app N705 N709q
        have pre710 : ∀ t, Steps p.tables e below (T709.setTop (mkF m 411 #[iv p0, iv p1, iv p2, iv p3, iv p4, rv b1, iv (0 : Int32), iv nn, iv c0, iv c1, iv c2, rv sgx, rv sg_543, iv (1 : Int32), iv (4 : Int32), iv (1 : Int32), .unset, .unset] [])) t → Steps p.tables e below (s₁.setTop (entryFrame m #[(.int p0), (.int p1), (.int p2), (.int p3), (.int p4)] maxLocals)) t := fun t kt => pre708 t (by
         show Steps _ _ _ (T705.setTop (mkF m 398 #[iv p0, iv p1, iv p2, iv p3, iv p4, rv b1, iv (0 : Int32), iv nn, iv c0, iv c1, iv c2, rv sgx, rv sg_543, iv (1 : Int32), iv (4 : Int32), iv (1 : Int32), .unset, .unset] [(.int c2), (.int (7 : Int32)), (.ref sg_543)])) _
         refine st709 _ ?_
         show Steps _ _ _ (T709.setTop (mkF m 401 #[iv p0, iv p1, iv p2, iv p3, iv p4, rv b1, iv (0 : Int32), iv nn, iv c0, iv c1, iv c2, rv sgx, rv sg_543, iv (1 : Int32), iv (4 : Int32), iv (1 : Int32), .unset, .unset] [(.int (1 : Int32))])) _
         refine XS.ifNo X709.here hx rfl (hb hby at_401) rfl ((if0 _ _).trans (feq (by decide : ¬ ((1 : Int32) = (0 : Int32)))).1) ?_
         refine XS.iconst X709.here hx rfl (hb hby at_404) ?_
         refine XS.goto X709.here hx rfl (pc0 := 405) (pc' := 409) rfl (hb hby at_405) (by decide) (by decide) ?_
         refine XS.istore X709.here hx rfl (hb hby at_409) rfl (l' := #[iv p0, iv p1, iv p2, iv p3, iv p4, rv b1, iv (0 : Int32), iv nn, iv c0, iv c1, iv c2, rv sgx, rv sg_543, iv (1 : Int32), iv (4 : Int32), iv (1 : Int32), .unset, .unset]) rfl ?_
         exact kt)
        have f711 := (f536.keep K543)
        have f712 := (f537.keep K543 nin0)
        have f713 := (f538.keep K543 nin0)
        have f714 := (f539.keep K543 nin0)
        have f715 := (own_staKeep f513 K543 ns0)
        have f716 := (f514.keep K543)
        have f717 := (f515.keep K543 nin0)
        have f718 := (f516.keep K543)
        have f719 := (f517.keep K543 nin0)
        have f720 := (f518.keep K543 nin0)
        have f721 := (f519.keep K543 nin0)
        have f722 := (own_staKeep f520 K543 ns0)
        have f723 := (f521.keep K543)
        have f724 := (f522.keep K543 nin0)
        have f725 := (own_staKeep f523 K543 ns0)
        have f726 := (f524.keep K543)
        have f727 := (f525.keep K543 nin0)
        have f728 := (f526.keep K543)
        have f729 := (f527.keep K543 nin0)
        have f730 := (f528.keep K543 nin0)
        have f731 := (f529.keep K543 nin0)
        have f732 := (own_staKeep f530 K543 ns0)
        have f733 := (f531.keep K543)
        have f734 := (f532.keep K543 nin0)
        have f735 := (f535.keep K543 nin0)
        exact ⟨T709, _, X709.more (by decide) (by decide), N709, e709, pre710⟩
      · have pre736 : ∀ t, Steps p.tables e below (T705.setTop (mkF m 411 #[iv p0, iv p1, iv p2, iv p3, iv p4, rv b1, iv (0 : Int32), iv nn, iv c0, iv c1, iv c2, rv sgx, rv sg_543, iv (1 : Int32), iv (4 : Int32), iv (1 : Int32), .unset, .unset] [])) t → Steps p.tables e below (s₁.setTop (entryFrame m #[(.int p0), (.int p1), (.int p2), (.int p3), (.int p4)] maxLocals)) t := fun t kt => pre707 t (by
         refine XS.icmpYes X705.here hx rfl (pc0 := 384) (pc' := 411) rfl (hb hby at_384) rfl (flt hc384_706).2.2.2 (by decide) (by decide) ?_
         exact kt)
        have f737 := (f536.keep K543)
        have f738 := (f537.keep K543 nin0)
        have f739 := (f538.keep K543 nin0)
        have f740 := (f539.keep K543 nin0)
        have f741 := (own_staKeep f513 K543 ns0)
        have f742 := (f514.keep K543)
        have f743 := (f515.keep K543 nin0)
        have f744 := (f516.keep K543)
        have f745 := (f517.keep K543 nin0)
        have f746 := (f518.keep K543 nin0)
        have f747 := (f519.keep K543 nin0)
        have f748 := (own_staKeep f520 K543 ns0)
        have f749 := (f521.keep K543)
        have f750 := (f522.keep K543 nin0)
        have f751 := (own_staKeep f523 K543 ns0)
        have f752 := (f524.keep K543)
        have f753 := (f525.keep K543 nin0)
        have f754 := (f526.keep K543)
        have f755 := (f527.keep K543 nin0)
        have f756 := (f528.keep K543 nin0)
        have f757 := (f529.keep K543 nin0)
        have f758 := (own_staKeep f530 K543 ns0)
        have f759 := (f531.keep K543)
        have f760 := (f532.keep K543 nin0)
        have f761 := (f535.keep K543 nin0)
        exact ⟨T705, _, X705.more (by decide) (by decide), N705, e705, pre736⟩
    obtain ⟨T762, L762, X762, N762, e762, pre762⟩ := Mg762
    have pre763 : ∀ t, Steps p.tables e below (T762.setTop (mkF m 428 #[iv p0, iv p1, iv p2, iv p3, iv p4, rv b1, iv (0 : Int32), iv nn, iv c0, iv c1, iv c2, rv sgx, rv sg_543, iv (1 : Int32), iv (4 : Int32), iv (1 : Int32), iv ((5 : Int32) + nn), .unset] [(.int (32 : Int32)), (.int ((5 : Int32) + nn)), (.ref sg_543)])) t → Steps p.tables e below (s₁.setTop (entryFrame m #[(.int p0), (.int p1), (.int p2), (.int p3), (.int p4)] maxLocals)) t := fun t kt => pre762 t (by
     refine XS.iconst X762.here hx rfl (hb hby at_411) ?_
     refine XS.iload X762.here hx rfl (hb hby at_412) rfl ?_
     refine XS.iadd X762.here hx rfl (hb hby at_414) rfl ?_
     refine XS.istore X762.here hx rfl (hb hby at_415) rfl (l' := #[iv p0, iv p1, iv p2, iv p3, iv p4, rv b1, iv (0 : Int32), iv nn, iv c0, iv c1, iv c2, rv sgx, rv sg_543, iv (1 : Int32), iv (4 : Int32), iv (1 : Int32), iv ((5 : Int32) + nn), .unset]) rfl ?_
     refine XS.iload X762.here hx rfl (hb hby at_417) rfl ?_
     refine XS.ifNo X762.here hx rfl (hb hby at_419) rfl ((if0 _ _).trans (feq (by decide : ¬ ((1 : Int32) = (0 : Int32)))).1) ?_
     refine XS.aload X762.here hx rfl (hb hby at_422) rfl rfl ?_
     refine XS.iload X762.here hx rfl (hb hby at_424) rfl ?_
     refine XS.bipush X762.here hx rfl (hb hby at_426) ?_
     exact kt)
    obtain ⟨_, _, ⟨T764, L764, k764, n764⟩, -, X764, ⟨Lc764, hQ764, l764, y764, z764⟩, st764⟩ := Jvm.LawKit.callS X762 hx (y := own_y36) hown543 (mvT hZ543 (own_g hw 182 rfl)) (mvT hZ543 (own_g hw 183 rfl)) (mvT hZ543 (own_g hw 184 rfl)) (mvT hZ543 (own_g hw 185 rfl)) (by decide) (backOf (W := 0) (rmEq l Z a0 hw [] sg_543 ((5 : Int32) + nn) (32 : Int32) yv_543 ky_543 zl_543 ys_543 zC fv T543.heap n0 f577 f545 f546 f547 f548 f576 hz f581 hfv (by rcases hnn with h | h | h | h <;> subst h <;> decide) (by rcases hnn with h | h | h | h <;> subst h <;> exact own_il f550 (by decide) (Nat.le_of_ble_eq_true rfl)) (by rcases hnn with h | h | h | h <;> subst h <;> exact own_eqc f549 (Nat.le_of_ble_eq_true rfl) (show nar .char (own_ch (32 : Int32)) = (32 : Int32) from by decide))) hZ543 (own_g hw 185 rfl) (own_g hw 184 rfl) (by decide) (by decide)) (g := (mkF m 428 #[iv p0, iv p1, iv p2, iv p3, iv p4, rv b1, iv (0 : Int32), iv nn, iv c0, iv c1, iv c2, rv sgx, rv sg_543, iv (1 : Int32), iv (4 : Int32), iv (1 : Int32), iv ((5 : Int32) + nn), .unset] [(.int (32 : Int32)), (.int ((5 : Int32) + nn)), (.ref sg_543)])) rfl (by rw [hml]; rfl) (argsL := [(.ref sg_543), (.int ((5 : Int32) + nn)), (.int (32 : Int32))]) (rest := []) (lenOf pd__Ljava_lang_String_IC_Z rfl) rfl (by show 2 * 0 + _ ≤ _; exact Nat.le_of_eq rfl) (hb hby at_428) (fun _ _ => ⟨rfl, e762, (by decide : 22 + 0 ≤ _), (by decide : 296 + 0 ≤ _)⟩)
    dsimp only [Pt.U, Pt.locs, Pt.cells, Pt.slots] at X764 l764 y764 z764 st764 hQ764
    subst l764 y764 z764
    obtain ⟨rfl, N764q, e764⟩ := hQ764
    have N764 := Fr.app N762 N764q
    have pre765 : ∀ t, Steps p.tables e below (T764.setTop (mkF m 442 #[iv p0, iv p1, iv p2, iv p3, iv p4, rv b1, iv (0 : Int32), iv nn, iv c0, iv c1, iv c2, rv sgx, rv sg_543, iv (1 : Int32), iv (4 : Int32), iv (1 : Int32), iv ((5 : Int32) + nn), .unset] [(.int (65 : Int32)), (.int (((5 : Int32) + nn) + (1 : Int32))), (.ref sg_543)])) t → Steps p.tables e below (s₁.setTop (entryFrame m #[(.int p0), (.int p1), (.int p2), (.int p3), (.int p4)] maxLocals)) t := fun t kt => pre763 t (by
     show Steps _ _ _ (T762.setTop (mkF m 428 #[iv p0, iv p1, iv p2, iv p3, iv p4, rv b1, iv (0 : Int32), iv nn, iv c0, iv c1, iv c2, rv sgx, rv sg_543, iv (1 : Int32), iv (4 : Int32), iv (1 : Int32), iv ((5 : Int32) + nn), .unset] [(.int (32 : Int32)), (.int ((5 : Int32) + nn)), (.ref sg_543)])) _
     refine st764 _ ?_
     refine XS.ifNo X764.here hx rfl (hb hby at_431) rfl ((if0 _ _).trans (feq (by decide : ¬ ((1 : Int32) = (0 : Int32)))).1) ?_
     refine XS.aload X764.here hx rfl (hb hby at_434) rfl rfl ?_
     refine XS.iload X764.here hx rfl (hb hby at_436) rfl ?_
     refine XS.iconst X764.here hx rfl (hb hby at_438) ?_
     refine XS.iadd X764.here hx rfl (hb hby at_439) rfl ?_
     refine XS.bipush X764.here hx rfl (hb hby at_440) ?_
     exact kt)
    obtain ⟨_, _, ⟨T766, L766, k766, n766⟩, -, X766, ⟨Lc766, hQ766, l766, y766, z766⟩, st766⟩ := Jvm.LawKit.callS X764 hx (y := own_y36) hown543 (mvT hZ543 (own_g hw 182 rfl)) (mvT hZ543 (own_g hw 183 rfl)) (mvT hZ543 (own_g hw 184 rfl)) (mvT hZ543 (own_g hw 185 rfl)) (by decide) (backOf (W := 0) (rmEq l Z a0 hw [] sg_543 (((5 : Int32) + nn) + (1 : Int32)) (65 : Int32) yv_543 ky_543 zl_543 ys_543 zC fv T543.heap n0 f577 f545 f546 f547 f548 f576 hz f581 hfv (by rcases hnn with h | h | h | h <;> subst h <;> decide) (by rcases hnn with h | h | h | h <;> subst h <;> exact own_il f550 (by decide) (Nat.le_of_ble_eq_true rfl)) (by rcases hnn with h | h | h | h <;> subst h <;> exact own_eqc f549 (Nat.le_of_ble_eq_true rfl) (show nar .char (own_ch (65 : Int32)) = (65 : Int32) from by decide))) hZ543 (own_g hw 185 rfl) (own_g hw 184 rfl) (by decide) (by decide)) (g := (mkF m 442 #[iv p0, iv p1, iv p2, iv p3, iv p4, rv b1, iv (0 : Int32), iv nn, iv c0, iv c1, iv c2, rv sgx, rv sg_543, iv (1 : Int32), iv (4 : Int32), iv (1 : Int32), iv ((5 : Int32) + nn), .unset] [(.int (65 : Int32)), (.int (((5 : Int32) + nn) + (1 : Int32))), (.ref sg_543)])) rfl (by rw [hml]; rfl) (argsL := [(.ref sg_543), (.int (((5 : Int32) + nn) + (1 : Int32))), (.int (65 : Int32))]) (rest := []) (lenOf pd__Ljava_lang_String_IC_Z rfl) rfl (by show 2 * 0 + _ ≤ _; exact Nat.le_of_eq rfl) (hb hby at_442) (fun _ _ => ⟨rfl, e764, (by decide : 22 + 0 ≤ _), (by decide : 296 + 0 ≤ _)⟩)
    dsimp only [Pt.U, Pt.locs, Pt.cells, Pt.slots] at X766 l766 y766 z766 st766 hQ766
    subst l766 y766 z766
    obtain ⟨rfl, N766q, e766⟩ := hQ766
    have N766 := Fr.app N764 N766q
    have pre767 : ∀ t, Steps p.tables e below (T766.setTop (mkF m 456 #[iv p0, iv p1, iv p2, iv p3, iv p4, rv b1, iv (0 : Int32), iv nn, iv c0, iv c1, iv c2, rv sgx, rv sg_543, iv (1 : Int32), iv (4 : Int32), iv (1 : Int32), iv ((5 : Int32) + nn), .unset] [(.int (83 : Int32)), (.int (((5 : Int32) + nn) + (2 : Int32))), (.ref sg_543)])) t → Steps p.tables e below (s₁.setTop (entryFrame m #[(.int p0), (.int p1), (.int p2), (.int p3), (.int p4)] maxLocals)) t := fun t kt => pre765 t (by
     show Steps _ _ _ (T764.setTop (mkF m 442 #[iv p0, iv p1, iv p2, iv p3, iv p4, rv b1, iv (0 : Int32), iv nn, iv c0, iv c1, iv c2, rv sgx, rv sg_543, iv (1 : Int32), iv (4 : Int32), iv (1 : Int32), iv ((5 : Int32) + nn), .unset] [(.int (65 : Int32)), (.int (((5 : Int32) + nn) + (1 : Int32))), (.ref sg_543)])) _
     refine st766 _ ?_
     refine XS.ifNo X766.here hx rfl (hb hby at_445) rfl ((if0 _ _).trans (feq (by decide : ¬ ((1 : Int32) = (0 : Int32)))).1) ?_
     refine XS.aload X766.here hx rfl (hb hby at_448) rfl rfl ?_
     refine XS.iload X766.here hx rfl (hb hby at_450) rfl ?_
     refine XS.iconst X766.here hx rfl (hb hby at_452) ?_
     show Steps _ _ _ (T766.setTop (mkF m 453 #[iv p0, iv p1, iv p2, iv p3, iv p4, rv b1, iv (0 : Int32), iv nn, iv c0, iv c1, iv c2, rv sgx, rv sg_543, iv (1 : Int32), iv (4 : Int32), iv (1 : Int32), iv ((5 : Int32) + nn), .unset] [(.int (2 : Int32)), (.int ((5 : Int32) + nn)), (.ref sg_543)])) _
     refine XS.iadd X766.here hx rfl (hb hby at_453) rfl ?_
     refine XS.bipush X766.here hx rfl (hb hby at_454) ?_
     exact kt)
    obtain ⟨_, _, ⟨T768, L768, k768, n768⟩, -, X768, ⟨Lc768, hQ768, l768, y768, z768⟩, st768⟩ := Jvm.LawKit.callS X766 hx (y := own_y36) hown543 (mvT hZ543 (own_g hw 182 rfl)) (mvT hZ543 (own_g hw 183 rfl)) (mvT hZ543 (own_g hw 184 rfl)) (mvT hZ543 (own_g hw 185 rfl)) (by decide) (backOf (W := 0) (rmEq l Z a0 hw [] sg_543 (((5 : Int32) + nn) + (2 : Int32)) (83 : Int32) yv_543 ky_543 zl_543 ys_543 zC fv T543.heap n0 f577 f545 f546 f547 f548 f576 hz f581 hfv (by rcases hnn with h | h | h | h <;> subst h <;> decide) (by rcases hnn with h | h | h | h <;> subst h <;> exact own_il f550 (by decide) (Nat.le_of_ble_eq_true rfl)) (by rcases hnn with h | h | h | h <;> subst h <;> exact own_eqc f549 (Nat.le_of_ble_eq_true rfl) (show nar .char (own_ch (83 : Int32)) = (83 : Int32) from by decide))) hZ543 (own_g hw 185 rfl) (own_g hw 184 rfl) (by decide) (by decide)) (g := (mkF m 456 #[iv p0, iv p1, iv p2, iv p3, iv p4, rv b1, iv (0 : Int32), iv nn, iv c0, iv c1, iv c2, rv sgx, rv sg_543, iv (1 : Int32), iv (4 : Int32), iv (1 : Int32), iv ((5 : Int32) + nn), .unset] [(.int (83 : Int32)), (.int (((5 : Int32) + nn) + (2 : Int32))), (.ref sg_543)])) rfl (by rw [hml]; rfl) (argsL := [(.ref sg_543), (.int (((5 : Int32) + nn) + (2 : Int32))), (.int (83 : Int32))]) (rest := []) (lenOf pd__Ljava_lang_String_IC_Z rfl) rfl (by show 2 * 0 + _ ≤ _; exact Nat.le_of_eq rfl) (hb hby at_456) (fun _ _ => ⟨rfl, e766, (by decide : 22 + 0 ≤ _), (by decide : 296 + 0 ≤ _)⟩)
    dsimp only [Pt.U, Pt.locs, Pt.cells, Pt.slots] at X768 l768 y768 z768 st768 hQ768
    subst l768 y768 z768
    obtain ⟨rfl, N768q, e768⟩ := hQ768
    have N768 := Fr.app N766 N768q
    have pre769 : ∀ t, Steps p.tables e below (T768.setTop (mkF m 470 #[iv p0, iv p1, iv p2, iv p3, iv p4, rv b1, iv (0 : Int32), iv nn, iv c0, iv c1, iv c2, rv sgx, rv sg_543, iv (1 : Int32), iv (4 : Int32), iv (1 : Int32), iv ((5 : Int32) + nn), .unset] [(.int (32 : Int32)), (.int (((5 : Int32) + nn) + (3 : Int32))), (.ref sg_543)])) t → Steps p.tables e below (s₁.setTop (entryFrame m #[(.int p0), (.int p1), (.int p2), (.int p3), (.int p4)] maxLocals)) t := fun t kt => pre767 t (by
     show Steps _ _ _ (T766.setTop (mkF m 456 #[iv p0, iv p1, iv p2, iv p3, iv p4, rv b1, iv (0 : Int32), iv nn, iv c0, iv c1, iv c2, rv sgx, rv sg_543, iv (1 : Int32), iv (4 : Int32), iv (1 : Int32), iv ((5 : Int32) + nn), .unset] [(.int (83 : Int32)), (.int (((5 : Int32) + nn) + (2 : Int32))), (.ref sg_543)])) _
     refine st768 _ ?_
     refine XS.ifNo X768.here hx rfl (hb hby at_459) rfl ((if0 _ _).trans (feq (by decide : ¬ ((1 : Int32) = (0 : Int32)))).1) ?_
     refine XS.aload X768.here hx rfl (hb hby at_462) rfl rfl ?_
     refine XS.iload X768.here hx rfl (hb hby at_464) rfl ?_
     refine XS.iconst X768.here hx rfl (hb hby at_466) ?_
     refine XS.iadd X768.here hx rfl (hb hby at_467) rfl ?_
     refine XS.bipush X768.here hx rfl (hb hby at_468) ?_
     exact kt)
    obtain ⟨_, _, ⟨T770, L770, k770, n770⟩, -, X770, ⟨Lc770, hQ770, l770, y770, z770⟩, st770⟩ := Jvm.LawKit.callS X768 hx (y := own_y36) hown543 (mvT hZ543 (own_g hw 182 rfl)) (mvT hZ543 (own_g hw 183 rfl)) (mvT hZ543 (own_g hw 184 rfl)) (mvT hZ543 (own_g hw 185 rfl)) (by decide) (backOf (W := 0) (rmEq l Z a0 hw [] sg_543 (((5 : Int32) + nn) + (3 : Int32)) (32 : Int32) yv_543 ky_543 zl_543 ys_543 zC fv T543.heap n0 f577 f545 f546 f547 f548 f576 hz f581 hfv (by rcases hnn with h | h | h | h <;> subst h <;> decide) (by rcases hnn with h | h | h | h <;> subst h <;> exact own_il f550 (by decide) (Nat.le_of_ble_eq_true rfl)) (by rcases hnn with h | h | h | h <;> subst h <;> exact own_eqc f549 (Nat.le_of_ble_eq_true rfl) (show nar .char (own_ch (32 : Int32)) = (32 : Int32) from by decide))) hZ543 (own_g hw 185 rfl) (own_g hw 184 rfl) (by decide) (by decide)) (g := (mkF m 470 #[iv p0, iv p1, iv p2, iv p3, iv p4, rv b1, iv (0 : Int32), iv nn, iv c0, iv c1, iv c2, rv sgx, rv sg_543, iv (1 : Int32), iv (4 : Int32), iv (1 : Int32), iv ((5 : Int32) + nn), .unset] [(.int (32 : Int32)), (.int (((5 : Int32) + nn) + (3 : Int32))), (.ref sg_543)])) rfl (by rw [hml]; rfl) (argsL := [(.ref sg_543), (.int (((5 : Int32) + nn) + (3 : Int32))), (.int (32 : Int32))]) (rest := []) (lenOf pd__Ljava_lang_String_IC_Z rfl) rfl (by show 2 * 0 + _ ≤ _; exact Nat.le_of_eq rfl) (hb hby at_470) (fun _ _ => ⟨rfl, e768, (by decide : 22 + 0 ≤ _), (by decide : 296 + 0 ≤ _)⟩)
    dsimp only [Pt.U, Pt.locs, Pt.cells, Pt.slots] at X770 l770 y770 z770 st770 hQ770
    subst l770 y770 z770
    obtain ⟨rfl, N770q, e770⟩ := hQ770
    have N770 := Fr.app N768 N770q
    have pre771 : ∀ t, Steps p.tables e below (T770.setTop (mkF m 505 #[iv p0, iv p1, iv p2, iv p3, iv p4, rv b1, iv (0 : Int32), iv nn, iv c0, iv c1, iv c2, rv sgx, rv sg_543, iv (1 : Int32), iv (4 : Int32), iv (1 : Int32), iv ((5 : Int32) + nn), iv (((5 : Int32) + nn) + (4 : Int32))] [(.int (116 : Int32)), (.int (((5 : Int32) + nn) + (4 : Int32))), (.ref sg_543)])) t → Steps p.tables e below (s₁.setTop (entryFrame m #[(.int p0), (.int p1), (.int p2), (.int p3), (.int p4)] maxLocals)) t := fun t kt => pre769 t (by
     show Steps _ _ _ (T768.setTop (mkF m 470 #[iv p0, iv p1, iv p2, iv p3, iv p4, rv b1, iv (0 : Int32), iv nn, iv c0, iv c1, iv c2, rv sgx, rv sg_543, iv (1 : Int32), iv (4 : Int32), iv (1 : Int32), iv ((5 : Int32) + nn), .unset] [(.int (32 : Int32)), (.int (((5 : Int32) + nn) + (3 : Int32))), (.ref sg_543)])) _
     refine st770 _ ?_
     refine XS.ifNo X770.here hx rfl (hb hby at_473) rfl ((if0 _ _).trans (feq (by decide : ¬ ((1 : Int32) = (0 : Int32)))).1) ?_
     refine XS.iconst X770.here hx rfl (hb hby at_476) ?_
     refine XS.goto X770.here hx rfl (pc0 := 477) (pc' := 481) rfl (hb hby at_477) (by decide) (by decide) ?_
     refine XS.istore X770.here hx rfl (hb hby at_481) rfl (l' := #[iv p0, iv p1, iv p2, iv p3, iv p4, rv b1, iv (0 : Int32), iv nn, iv c0, iv c1, iv c2, rv sgx, rv sg_543, iv (1 : Int32), iv (4 : Int32), iv (1 : Int32), iv ((5 : Int32) + nn), .unset]) rfl ?_
     refine XS.iload X770.here hx rfl (hb hby at_483) rfl ?_
     refine XS.iconst X770.here hx rfl (hb hby at_485) ?_
     refine XS.iadd X770.here hx rfl (hb hby at_486) rfl ?_
     refine XS.istore X770.here hx rfl (hb hby at_487) rfl (l' := #[iv p0, iv p1, iv p2, iv p3, iv p4, rv b1, iv (0 : Int32), iv nn, iv c0, iv c1, iv c2, rv sgx, rv sg_543, iv (1 : Int32), iv (4 : Int32), iv (1 : Int32), iv ((5 : Int32) + nn), iv (((5 : Int32) + nn) + (4 : Int32))]) rfl ?_
     refine XS.iload X770.here hx rfl (hb hby at_489) rfl ?_
     refine XS.ifNo X770.here hx rfl (hb hby at_491) rfl ((if0 _ _).trans (feq (by decide : ¬ ((1 : Int32) = (0 : Int32)))).1) ?_
     refine XS.iload X770.here hx rfl (hb hby at_494) rfl ?_
     refine XS.ifNo X770.here hx rfl (hb hby at_496) rfl ((if0 _ _).trans (feq (by decide : ¬ ((1 : Int32) = (0 : Int32)))).1) ?_
     refine XS.aload X770.here hx rfl (hb hby at_499) rfl rfl ?_
     refine XS.iload X770.here hx rfl (hb hby at_501) rfl ?_
     refine XS.bipush X770.here hx rfl (hb hby at_503) ?_
     exact kt)
    obtain ⟨_, _, ⟨T772, L772, k772, n772⟩, -, X772, ⟨Lc772, hQ772, l772, y772, z772⟩, st772⟩ := Jvm.LawKit.callS X770 hx (y := own_y36) hown543 (mvT hZ543 (own_g hw 182 rfl)) (mvT hZ543 (own_g hw 183 rfl)) (mvT hZ543 (own_g hw 184 rfl)) (mvT hZ543 (own_g hw 185 rfl)) (by decide) (backOf (W := 0) (rmEq l Z a0 hw [] sg_543 (((5 : Int32) + nn) + (4 : Int32)) (116 : Int32) yv_543 ky_543 zl_543 ys_543 zC fv T543.heap n0 f577 f545 f546 f547 f548 f576 hz f581 hfv (by rcases hnn with h | h | h | h <;> subst h <;> decide) (by rcases hnn with h | h | h | h <;> subst h <;> exact own_il f550 (by decide) (Nat.le_of_ble_eq_true rfl)) (by rcases hnn with h | h | h | h <;> subst h <;> exact own_eqc f549 (Nat.le_of_ble_eq_true rfl) (show nar .char (own_ch (116 : Int32)) = (116 : Int32) from by decide))) hZ543 (own_g hw 185 rfl) (own_g hw 184 rfl) (by decide) (by decide)) (g := (mkF m 505 #[iv p0, iv p1, iv p2, iv p3, iv p4, rv b1, iv (0 : Int32), iv nn, iv c0, iv c1, iv c2, rv sgx, rv sg_543, iv (1 : Int32), iv (4 : Int32), iv (1 : Int32), iv ((5 : Int32) + nn), iv (((5 : Int32) + nn) + (4 : Int32))] [(.int (116 : Int32)), (.int (((5 : Int32) + nn) + (4 : Int32))), (.ref sg_543)])) rfl (by rw [hml]; rfl) (argsL := [(.ref sg_543), (.int (((5 : Int32) + nn) + (4 : Int32))), (.int (116 : Int32))]) (rest := []) (lenOf pd__Ljava_lang_String_IC_Z rfl) rfl (by show 2 * 0 + _ ≤ _; exact Nat.le_of_eq rfl) (hb hby at_505) (fun _ _ => ⟨rfl, e770, (by decide : 22 + 0 ≤ _), (by decide : 296 + 0 ≤ _)⟩)
    dsimp only [Pt.U, Pt.locs, Pt.cells, Pt.slots] at X772 l772 y772 z772 st772 hQ772
    subst l772 y772 z772
    obtain ⟨rfl, N772q, e772⟩ := hQ772
    have N772 := Fr.app N770 N772q
    have pre773 : ∀ t, Steps p.tables e below (T772.setTop (mkF m 519 #[iv p0, iv p1, iv p2, iv p3, iv p4, rv b1, iv (0 : Int32), iv nn, iv c0, iv c1, iv c2, rv sgx, rv sg_543, iv (1 : Int32), iv (4 : Int32), iv (1 : Int32), iv ((5 : Int32) + nn), iv (((5 : Int32) + nn) + (4 : Int32))] [(.int (101 : Int32)), (.int ((((5 : Int32) + nn) + (4 : Int32)) + (1 : Int32))), (.ref sg_543)])) t → Steps p.tables e below (s₁.setTop (entryFrame m #[(.int p0), (.int p1), (.int p2), (.int p3), (.int p4)] maxLocals)) t := fun t kt => pre771 t (by
     show Steps _ _ _ (T770.setTop (mkF m 505 #[iv p0, iv p1, iv p2, iv p3, iv p4, rv b1, iv (0 : Int32), iv nn, iv c0, iv c1, iv c2, rv sgx, rv sg_543, iv (1 : Int32), iv (4 : Int32), iv (1 : Int32), iv ((5 : Int32) + nn), iv (((5 : Int32) + nn) + (4 : Int32))] [(.int (116 : Int32)), (.int (((5 : Int32) + nn) + (4 : Int32))), (.ref sg_543)])) _
     refine st772 _ ?_
     refine XS.ifNo X772.here hx rfl (hb hby at_508) rfl ((if0 _ _).trans (feq (by decide : ¬ ((1 : Int32) = (0 : Int32)))).1) ?_
     show Steps _ _ _ (T772.setTop (mkF m 511 #[iv p0, iv p1, iv p2, iv p3, iv p4, rv b1, iv (0 : Int32), iv nn, iv c0, iv c1, iv c2, rv sgx, rv sg_543, iv (1 : Int32), iv (4 : Int32), iv (1 : Int32), iv ((5 : Int32) + nn), iv (((5 : Int32) + nn) + (4 : Int32))] [])) _
     refine XS.aload X772.here hx rfl (hb hby at_511) rfl rfl ?_
     refine XS.iload X772.here hx rfl (hb hby at_513) rfl ?_
     refine XS.iconst X772.here hx rfl (hb hby at_515) ?_
     refine XS.iadd X772.here hx rfl (hb hby at_516) rfl ?_
     refine XS.bipush X772.here hx rfl (hb hby at_517) ?_
     exact kt)
    obtain ⟨_, _, ⟨T774, L774, k774, n774⟩, -, X774, ⟨Lc774, hQ774, l774, y774, z774⟩, st774⟩ := Jvm.LawKit.callS X772 hx (y := own_y36) hown543 (mvT hZ543 (own_g hw 182 rfl)) (mvT hZ543 (own_g hw 183 rfl)) (mvT hZ543 (own_g hw 184 rfl)) (mvT hZ543 (own_g hw 185 rfl)) (by decide) (backOf (W := 0) (rmEq l Z a0 hw [] sg_543 ((((5 : Int32) + nn) + (4 : Int32)) + (1 : Int32)) (101 : Int32) yv_543 ky_543 zl_543 ys_543 zC fv T543.heap n0 f577 f545 f546 f547 f548 f576 hz f581 hfv (by rcases hnn with h | h | h | h <;> subst h <;> decide) (by rcases hnn with h | h | h | h <;> subst h <;> exact own_il f550 (by decide) (Nat.le_of_ble_eq_true rfl)) (by rcases hnn with h | h | h | h <;> subst h <;> exact own_eqc f549 (Nat.le_of_ble_eq_true rfl) (show nar .char (own_ch (101 : Int32)) = (101 : Int32) from by decide))) hZ543 (own_g hw 185 rfl) (own_g hw 184 rfl) (by decide) (by decide)) (g := (mkF m 519 #[iv p0, iv p1, iv p2, iv p3, iv p4, rv b1, iv (0 : Int32), iv nn, iv c0, iv c1, iv c2, rv sgx, rv sg_543, iv (1 : Int32), iv (4 : Int32), iv (1 : Int32), iv ((5 : Int32) + nn), iv (((5 : Int32) + nn) + (4 : Int32))] [(.int (101 : Int32)), (.int ((((5 : Int32) + nn) + (4 : Int32)) + (1 : Int32))), (.ref sg_543)])) rfl (by rw [hml]; rfl) (argsL := [(.ref sg_543), (.int ((((5 : Int32) + nn) + (4 : Int32)) + (1 : Int32))), (.int (101 : Int32))]) (rest := []) (lenOf pd__Ljava_lang_String_IC_Z rfl) rfl (by show 2 * 0 + _ ≤ _; exact Nat.le_of_eq rfl) (hb hby at_519) (fun _ _ => ⟨rfl, e772, (by decide : 22 + 0 ≤ _), (by decide : 296 + 0 ≤ _)⟩)
    dsimp only [Pt.U, Pt.locs, Pt.cells, Pt.slots] at X774 l774 y774 z774 st774 hQ774
    subst l774 y774 z774
    obtain ⟨rfl, N774q, e774⟩ := hQ774
    have N774 := Fr.app N772 N774q
    have pre775 : ∀ t, Steps p.tables e below (T774.setTop (mkF m 533 #[iv p0, iv p1, iv p2, iv p3, iv p4, rv b1, iv (0 : Int32), iv nn, iv c0, iv c1, iv c2, rv sgx, rv sg_543, iv (1 : Int32), iv (4 : Int32), iv (1 : Int32), iv ((5 : Int32) + nn), iv (((5 : Int32) + nn) + (4 : Int32))] [(.int (120 : Int32)), (.int ((((5 : Int32) + nn) + (4 : Int32)) + (2 : Int32))), (.ref sg_543)])) t → Steps p.tables e below (s₁.setTop (entryFrame m #[(.int p0), (.int p1), (.int p2), (.int p3), (.int p4)] maxLocals)) t := fun t kt => pre773 t (by
     show Steps _ _ _ (T772.setTop (mkF m 519 #[iv p0, iv p1, iv p2, iv p3, iv p4, rv b1, iv (0 : Int32), iv nn, iv c0, iv c1, iv c2, rv sgx, rv sg_543, iv (1 : Int32), iv (4 : Int32), iv (1 : Int32), iv ((5 : Int32) + nn), iv (((5 : Int32) + nn) + (4 : Int32))] [(.int (101 : Int32)), (.int ((((5 : Int32) + nn) + (4 : Int32)) + (1 : Int32))), (.ref sg_543)])) _
     refine st774 _ ?_
     refine XS.ifNo X774.here hx rfl (hb hby at_522) rfl ((if0 _ _).trans (feq (by decide : ¬ ((1 : Int32) = (0 : Int32)))).1) ?_
     refine XS.aload X774.here hx rfl (hb hby at_525) rfl rfl ?_
     refine XS.iload X774.here hx rfl (hb hby at_527) rfl ?_
     refine XS.iconst X774.here hx rfl (hb hby at_529) ?_
     refine XS.iadd X774.here hx rfl (hb hby at_530) rfl ?_
     refine XS.bipush X774.here hx rfl (hb hby at_531) ?_
     exact kt)
    obtain ⟨_, _, ⟨T776, L776, k776, n776⟩, -, X776, ⟨Lc776, hQ776, l776, y776, z776⟩, st776⟩ := Jvm.LawKit.callS X774 hx (y := own_y36) hown543 (mvT hZ543 (own_g hw 182 rfl)) (mvT hZ543 (own_g hw 183 rfl)) (mvT hZ543 (own_g hw 184 rfl)) (mvT hZ543 (own_g hw 185 rfl)) (by decide) (backOf (W := 0) (rmEq l Z a0 hw [] sg_543 ((((5 : Int32) + nn) + (4 : Int32)) + (2 : Int32)) (120 : Int32) yv_543 ky_543 zl_543 ys_543 zC fv T543.heap n0 f577 f545 f546 f547 f548 f576 hz f581 hfv (by rcases hnn with h | h | h | h <;> subst h <;> decide) (by rcases hnn with h | h | h | h <;> subst h <;> exact own_il f550 (by decide) (Nat.le_of_ble_eq_true rfl)) (by rcases hnn with h | h | h | h <;> subst h <;> exact own_eqc f549 (Nat.le_of_ble_eq_true rfl) (show nar .char (own_ch (120 : Int32)) = (120 : Int32) from by decide))) hZ543 (own_g hw 185 rfl) (own_g hw 184 rfl) (by decide) (by decide)) (g := (mkF m 533 #[iv p0, iv p1, iv p2, iv p3, iv p4, rv b1, iv (0 : Int32), iv nn, iv c0, iv c1, iv c2, rv sgx, rv sg_543, iv (1 : Int32), iv (4 : Int32), iv (1 : Int32), iv ((5 : Int32) + nn), iv (((5 : Int32) + nn) + (4 : Int32))] [(.int (120 : Int32)), (.int ((((5 : Int32) + nn) + (4 : Int32)) + (2 : Int32))), (.ref sg_543)])) rfl (by rw [hml]; rfl) (argsL := [(.ref sg_543), (.int ((((5 : Int32) + nn) + (4 : Int32)) + (2 : Int32))), (.int (120 : Int32))]) (rest := []) (lenOf pd__Ljava_lang_String_IC_Z rfl) rfl (by show 2 * 0 + _ ≤ _; exact Nat.le_of_eq rfl) (hb hby at_533) (fun _ _ => ⟨rfl, e774, (by decide : 22 + 0 ≤ _), (by decide : 296 + 0 ≤ _)⟩)
    dsimp only [Pt.U, Pt.locs, Pt.cells, Pt.slots] at X776 l776 y776 z776 st776 hQ776
    subst l776 y776 z776
    obtain ⟨rfl, N776q, e776⟩ := hQ776
    have N776 := Fr.app N774 N776q
    have pre777 : ∀ t, Steps p.tables e below (T776.setTop (mkF m 547 #[iv p0, iv p1, iv p2, iv p3, iv p4, rv b1, iv (0 : Int32), iv nn, iv c0, iv c1, iv c2, rv sgx, rv sg_543, iv (1 : Int32), iv (4 : Int32), iv (1 : Int32), iv ((5 : Int32) + nn), iv (((5 : Int32) + nn) + (4 : Int32))] [(.int (116 : Int32)), (.int ((((5 : Int32) + nn) + (4 : Int32)) + (3 : Int32))), (.ref sg_543)])) t → Steps p.tables e below (s₁.setTop (entryFrame m #[(.int p0), (.int p1), (.int p2), (.int p3), (.int p4)] maxLocals)) t := fun t kt => pre775 t (by
     show Steps _ _ _ (T774.setTop (mkF m 533 #[iv p0, iv p1, iv p2, iv p3, iv p4, rv b1, iv (0 : Int32), iv nn, iv c0, iv c1, iv c2, rv sgx, rv sg_543, iv (1 : Int32), iv (4 : Int32), iv (1 : Int32), iv ((5 : Int32) + nn), iv (((5 : Int32) + nn) + (4 : Int32))] [(.int (120 : Int32)), (.int ((((5 : Int32) + nn) + (4 : Int32)) + (2 : Int32))), (.ref sg_543)])) _
     refine st776 _ ?_
     refine XS.ifNo X776.here hx rfl (hb hby at_536) rfl ((if0 _ _).trans (feq (by decide : ¬ ((1 : Int32) = (0 : Int32)))).1) ?_
     refine XS.aload X776.here hx rfl (hb hby at_539) rfl rfl ?_
     refine XS.iload X776.here hx rfl (hb hby at_541) rfl ?_
     refine XS.iconst X776.here hx rfl (hb hby at_543) ?_
     refine XS.iadd X776.here hx rfl (hb hby at_544) rfl ?_
     refine XS.bipush X776.here hx rfl (hb hby at_545) ?_
     exact kt)
    obtain ⟨_, _, ⟨T778, L778, k778, n778⟩, -, X778, ⟨Lc778, hQ778, l778, y778, z778⟩, st778⟩ := Jvm.LawKit.callS X776 hx (y := own_y36) hown543 (mvT hZ543 (own_g hw 182 rfl)) (mvT hZ543 (own_g hw 183 rfl)) (mvT hZ543 (own_g hw 184 rfl)) (mvT hZ543 (own_g hw 185 rfl)) (by decide) (backOf (W := 0) (rmEq l Z a0 hw [] sg_543 ((((5 : Int32) + nn) + (4 : Int32)) + (3 : Int32)) (116 : Int32) yv_543 ky_543 zl_543 ys_543 zC fv T543.heap n0 f577 f545 f546 f547 f548 f576 hz f581 hfv (by rcases hnn with h | h | h | h <;> subst h <;> decide) (by rcases hnn with h | h | h | h <;> subst h <;> exact own_il f550 (by decide) (Nat.le_of_ble_eq_true rfl)) (by rcases hnn with h | h | h | h <;> subst h <;> exact own_eqc f549 (Nat.le_of_ble_eq_true rfl) (show nar .char (own_ch (116 : Int32)) = (116 : Int32) from by decide))) hZ543 (own_g hw 185 rfl) (own_g hw 184 rfl) (by decide) (by decide)) (g := (mkF m 547 #[iv p0, iv p1, iv p2, iv p3, iv p4, rv b1, iv (0 : Int32), iv nn, iv c0, iv c1, iv c2, rv sgx, rv sg_543, iv (1 : Int32), iv (4 : Int32), iv (1 : Int32), iv ((5 : Int32) + nn), iv (((5 : Int32) + nn) + (4 : Int32))] [(.int (116 : Int32)), (.int ((((5 : Int32) + nn) + (4 : Int32)) + (3 : Int32))), (.ref sg_543)])) rfl (by rw [hml]; rfl) (argsL := [(.ref sg_543), (.int ((((5 : Int32) + nn) + (4 : Int32)) + (3 : Int32))), (.int (116 : Int32))]) (rest := []) (lenOf pd__Ljava_lang_String_IC_Z rfl) rfl (by show 2 * 0 + _ ≤ _; exact Nat.le_of_eq rfl) (hb hby at_547) (fun _ _ => ⟨rfl, e776, (by decide : 22 + 0 ≤ _), (by decide : 296 + 0 ≤ _)⟩)
    dsimp only [Pt.U, Pt.locs, Pt.cells, Pt.slots] at X778 l778 y778 z778 st778 hQ778
    subst l778 y778 z778
    obtain ⟨rfl, N778q, e778⟩ := hQ778
    have N778 := Fr.app N776 N778q
    have pre779 : ∀ t, Steps p.tables e below (T778.setTop (mkF m 686 #[iv p0, iv p1, iv p2, iv p3, iv p4, rv b1, iv (0 : Int32), iv nn, iv c0, iv c1, iv c2, rv sgx, rv sg_543, iv (1 : Int32), iv (4 : Int32), iv (1 : Int32), iv ((5 : Int32) + nn), iv (((5 : Int32) + nn) + (4 : Int32))] [(.int (41 : Int32)), (.int ((((5 : Int32) + nn) + (4 : Int32)) + (4 : Int32))), (.ref sg_543)])) t → Steps p.tables e below (s₁.setTop (entryFrame m #[(.int p0), (.int p1), (.int p2), (.int p3), (.int p4)] maxLocals)) t := fun t kt => pre777 t (by
     show Steps _ _ _ (T776.setTop (mkF m 547 #[iv p0, iv p1, iv p2, iv p3, iv p4, rv b1, iv (0 : Int32), iv nn, iv c0, iv c1, iv c2, rv sgx, rv sg_543, iv (1 : Int32), iv (4 : Int32), iv (1 : Int32), iv ((5 : Int32) + nn), iv (((5 : Int32) + nn) + (4 : Int32))] [(.int (116 : Int32)), (.int ((((5 : Int32) + nn) + (4 : Int32)) + (3 : Int32))), (.ref sg_543)])) _
     refine st778 _ ?_
     refine XS.ifNo X778.here hx rfl (hb hby at_550) rfl ((if0 _ _).trans (feq (by decide : ¬ ((1 : Int32) = (0 : Int32)))).1) ?_
     refine XS.iconst X778.here hx rfl (hb hby at_553) ?_
     refine XS.goto X778.here hx rfl (pc0 := 554) (pc' := 558) rfl (hb hby at_554) (by decide) (by decide) ?_
     refine XS.istore X778.here hx rfl (hb hby at_558) rfl (l' := #[iv p0, iv p1, iv p2, iv p3, iv p4, rv b1, iv (0 : Int32), iv nn, iv c0, iv c1, iv c2, rv sgx, rv sg_543, iv (1 : Int32), iv (4 : Int32), iv (1 : Int32), iv ((5 : Int32) + nn), iv (((5 : Int32) + nn) + (4 : Int32))]) rfl ?_
     refine XS.goto X778.here hx rfl (pc0 := 560) (pc' := 672) rfl (hb hby at_560) (by decide) (by decide) ?_
     refine XS.iload X778.here hx rfl (hb hby at_672) rfl ?_
     refine XS.ifNo X778.here hx rfl (hb hby at_674) rfl ((if0 _ _).trans (feq (by decide : ¬ ((1 : Int32) = (0 : Int32)))).1) ?_
     show Steps _ _ _ (T778.setTop (mkF m 677 #[iv p0, iv p1, iv p2, iv p3, iv p4, rv b1, iv (0 : Int32), iv nn, iv c0, iv c1, iv c2, rv sgx, rv sg_543, iv (1 : Int32), iv (4 : Int32), iv (1 : Int32), iv ((5 : Int32) + nn), iv (((5 : Int32) + nn) + (4 : Int32))] [])) _
     refine XS.aload X778.here hx rfl (hb hby at_677) rfl rfl ?_
     refine XS.iload X778.here hx rfl (hb hby at_679) rfl ?_
     refine XS.iload X778.here hx rfl (hb hby at_681) rfl ?_
     refine XS.iadd X778.here hx rfl (hb hby at_683) rfl ?_
     refine XS.bipush X778.here hx rfl (hb hby at_684) ?_
     exact kt)
    obtain ⟨_, _, ⟨T780, L780, k780, n780⟩, -, X780, ⟨Lc780, hQ780, l780, y780, z780⟩, st780⟩ := Jvm.LawKit.callS X778 hx (y := own_y36) hown543 (mvT hZ543 (own_g hw 182 rfl)) (mvT hZ543 (own_g hw 183 rfl)) (mvT hZ543 (own_g hw 184 rfl)) (mvT hZ543 (own_g hw 185 rfl)) (by decide) (backOf (W := 0) (rmEq l Z a0 hw [] sg_543 ((((5 : Int32) + nn) + (4 : Int32)) + (4 : Int32)) (41 : Int32) yv_543 ky_543 zl_543 ys_543 zC fv T543.heap n0 f577 f545 f546 f547 f548 f576 hz f581 hfv (by rcases hnn with h | h | h | h <;> subst h <;> decide) (by rcases hnn with h | h | h | h <;> subst h <;> exact own_il f550 (by decide) (Nat.le_of_ble_eq_true rfl)) (by rcases hnn with h | h | h | h <;> subst h <;> exact own_eqc f549 (Nat.le_of_ble_eq_true rfl) (show nar .char (own_ch (41 : Int32)) = (41 : Int32) from by decide))) hZ543 (own_g hw 185 rfl) (own_g hw 184 rfl) (by decide) (by decide)) (g := (mkF m 686 #[iv p0, iv p1, iv p2, iv p3, iv p4, rv b1, iv (0 : Int32), iv nn, iv c0, iv c1, iv c2, rv sgx, rv sg_543, iv (1 : Int32), iv (4 : Int32), iv (1 : Int32), iv ((5 : Int32) + nn), iv (((5 : Int32) + nn) + (4 : Int32))] [(.int (41 : Int32)), (.int ((((5 : Int32) + nn) + (4 : Int32)) + (4 : Int32))), (.ref sg_543)])) rfl (by rw [hml]; rfl) (argsL := [(.ref sg_543), (.int ((((5 : Int32) + nn) + (4 : Int32)) + (4 : Int32))), (.int (41 : Int32))]) (rest := []) (lenOf pd__Ljava_lang_String_IC_Z rfl) rfl (by show 2 * 0 + _ ≤ _; exact Nat.le_of_eq rfl) (hb hby at_686) (fun _ _ => ⟨rfl, e778, (by decide : 22 + 0 ≤ _), (by decide : 296 + 0 ≤ _)⟩)
    dsimp only [Pt.U, Pt.locs, Pt.cells, Pt.slots] at X780 l780 y780 z780 st780 hQ780
    subst l780 y780 z780
    obtain ⟨rfl, N780q, e780⟩ := hQ780
    have N780 := Fr.app N778 N780q
    obtain ⟨fs, hr, hrun, hended, hW, hsame⟩ := X780.leave (v := some (.int (1 : Int32))) (fun h => by rw [Bd.returns] at h; cases h)
    have qE := hS543.ended (c := room_1.cells) (k := room_1.slots) hW (show _ ≤ T780.heap.size from (by rw [e780]; exact (Nat.le_refl _))) (hsame.mono (by decide) (by decide))
    refine ⟨_, _, pre779 _ ?_, hrun, hended, _, _, rfl, ?_, ⟨_, rfl⟩, qE.1, qE.2.1, qE.2.2⟩
    · show Steps _ _ _ (T778.setTop (mkF m 686 #[iv p0, iv p1, iv p2, iv p3, iv p4, rv b1, iv (0 : Int32), iv nn, iv c0, iv c1, iv c2, rv sgx, rv sg_543, iv (1 : Int32), iv (4 : Int32), iv (1 : Int32), iv ((5 : Int32) + nn), iv (((5 : Int32) + nn) + (4 : Int32))] [(.int (41 : Int32)), (.int ((((5 : Int32) + nn) + (4 : Int32)) + (4 : Int32))), (.ref sg_543)])) _
      refine st780 _ ?_
      refine XS.ifNo X780.here hx rfl (hb hby at_689) rfl ((if0 _ _).trans (feq (by decide : ¬ ((1 : Int32) = (0 : Int32)))).1) ?_
      refine XS.iconst X780.here hx rfl (hb hby at_692) ?_
      refine XS.goto X780.here hx rfl (pc0 := 693) (pc' := 697) rfl (hb hby at_693) (by decide) (by decide) ?_
      refine XS.istore X780.here hx rfl (hb hby at_697) rfl (l' := #[iv p0, iv p1, iv p2, iv p3, iv p4, rv b1, iv (0 : Int32), iv nn, iv c0, iv c1, iv c2, rv sgx, rv sg_543, iv (1 : Int32), iv (4 : Int32), iv (1 : Int32), iv ((5 : Int32) + nn), iv (((5 : Int32) + nn) + (4 : Int32))]) rfl ?_
      refine XS.iload X780.here hx rfl (hb hby at_699) rfl ?_
      show Steps _ _ _ (T780.setTop (mkF m 701 #[iv p0, iv p1, iv p2, iv p3, iv p4, rv b1, iv (0 : Int32), iv nn, iv c0, iv c1, iv c2, rv sgx, rv sg_543, iv (1 : Int32), iv (4 : Int32), iv (1 : Int32), iv ((5 : Int32) + nn), iv (((5 : Int32) + nn) + (4 : Int32))] [(.int (1 : Int32))])) _
      exact retN X780 hx (t := .boolean) Bd.returns (by simp) (hb hby at_701) hr
    · show own_Q0 n0 _ T780.heap _
      rw [e780]
      exact ⟨rfl, N780⟩
  · rw [hi] at pre540
    obtain ⟨cl781, Ar781, qq781, S781, N781_, H781, G781⟩ := id f535
    have hin781 : ¬ ((1 : Int32) < 0 ∨ cl781.slots.size ≤ ((1 : Int32)).toNatClampNeg) := inb_of S781 ⟨by decide, by decide⟩
    have hat781 : cl781.slots[((1 : Int32)).toNatClampNeg]? = some (.ref wM) := H781.at hin781 rfl
    have pre782 : ∀ t, Steps p.tables e below (T509.setTop (mkF m 176 #[iv p0, iv p1, iv p2, iv p3, iv p4, rv b1, iv (1 : Int32), iv nn, iv c0, iv c1, iv c2, rv sgx, .unset, .unset, .unset, .unset, .unset, .unset] [(.ref sgx), (.ref wM)])) t → Steps p.tables e below (s₁.setTop (entryFrame m #[(.int p0), (.int p1), (.int p2), (.int p3), (.int p4)] maxLocals)) t := fun t kt => pre540 t (by
     refine X509.aaload hx (j := (1 : Int32)) (v := (.ref wM)) Ar781.1 (State.isArrayOf_alike hZ509.alike Ar781.2.1) rfl Ar781.2.2 hin781 hat781 (g := (mkF m 173 #[iv p0, iv p1, iv p2, iv p3, iv p4, rv b1, iv (1 : Int32), iv nn, iv c0, iv c1, iv c2, rv sgx, .unset, .unset, .unset, .unset, .unset, .unset] [(.int (1 : Int32)), (.ref b1)])) rfl rfl (hb hby at_173) _ ?_
     refine XS.aload X509.here hx rfl (hb hby at_174) rfl rfl ?_
     exact kt)
    obtain ⟨cq784, kq784, q784a, q784b, q784c⟩ := isOf hZ509 rfl f521
    obtain ⟨_, _, ⟨T783, L783, k783, n783⟩, -, X783, ⟨Lc783, hQ783, l783, y783, z783⟩, st783⟩ := X509.virtualBack hx (y := own_y35) (z := own_y35) hown509 (mvT hZ509 (own_g hw 42 rfl)) (mvT hZ509 (own_g hw 43 rfl)) (notFace_of_selects (args := #[]) (mvT hZ509 (own_g hw 45 rfl))) (mvT hZ509 (own_g hw 45 rfl)) (mvT hZ509 (own_g hw 44 rfl)) (by decide) (backOf (W := 0) (rmT0 l Z a0 hw [] wM sgx T509.heap n0 f510 f521 f522) hZ509 (own_g hw 46 rfl) (own_g hw 3 rfl) (by decide) (by decide)) q784a q784c (g := (mkF m 176 #[iv p0, iv p1, iv p2, iv p3, iv p4, rv b1, iv (1 : Int32), iv nn, iv c0, iv c1, iv c2, rv sgx, .unset, .unset, .unset, .unset, .unset, .unset] [(.ref sgx), (.ref wM)])) rfl (by rw [hml]; rfl) (Steps.refl _) (argsL := [(.ref sgx)]) (rest := []) (lenOf pd__Ljava_lang_String__Ljava_lang_String_ rfl) rfl (by show 2 * 0 + _ ≤ _; exact Nat.le_of_eq rfl) (hb hby at_176) (fun _ _ => ⟨rfl, rfl, (by decide : 7 + 0 ≤ _), (by decide : 16 + 0 ≤ _)⟩)
    dsimp only [Pt.U, Pt.locs, Pt.cells, Pt.slots] at X783 l783 y783 z783 st783 hQ783
    subst l783 y783 z783
    obtain ⟨rfl, N783q, e783⟩ := hQ783
    have N783 := Fr.app N509 N783q
    have pre785 : ∀ t, Steps p.tables e below (T783.setTop (mkF m 204 #[iv p0, iv p1, iv p2, iv p3, iv p4, rv b1, iv (1 : Int32), iv nn, iv c0, iv c1, iv c2, rv sgx, rv sgx, .unset, .unset, .unset, .unset, .unset] [(.ref sgx), (.ref sgx)])) t → Steps p.tables e below (s₁.setTop (entryFrame m #[(.int p0), (.int p1), (.int p2), (.int p3), (.int p4)] maxLocals)) t := fun t kt => pre782 t (by
     show Steps _ _ _ (T509.setTop (mkF m 176 #[iv p0, iv p1, iv p2, iv p3, iv p4, rv b1, iv (1 : Int32), iv nn, iv c0, iv c1, iv c2, rv sgx, .unset, .unset, .unset, .unset, .unset, .unset] [(.ref sgx), (.ref wM)])) _
     refine st783.trans ?_
     refine XS.astore X783.here hx rfl (hb hby at_179) rfl rfl (l' := #[iv p0, iv p1, iv p2, iv p3, iv p4, rv b1, iv (1 : Int32), iv nn, iv c0, iv c1, iv c2, rv sgx, rv sgx, .unset, .unset, .unset, .unset, .unset]) rfl ?_
     refine XS.aload X783.here hx rfl (hb hby at_181) rfl rfl ?_
     refine XS.ifnonnullYes X783.here hx rfl (pc0 := 183) (pc' := 188) rfl (hb hby at_183) rfl (by decide) (by decide) ?_
     refine XS.iload X783.here hx rfl (hb hby at_188) rfl ?_
     refine XS.iconst X783.here hx rfl (hb hby at_190) ?_
     refine XS.icmpYes X783.here hx rfl (pc0 := 191) (pc' := 200) rfl (hb hby at_191) rfl (teq (by decide : (1 : Int32) = (1 : Int32))).1 (by decide) (by decide) ?_
     refine XS.aload X783.here hx rfl (hb hby at_200) rfl rfl ?_
     refine XS.aload X783.here hx rfl (hb hby at_202) rfl rfl ?_
     exact kt)
    obtain ⟨cq787, kq787, q787a, q787b, q787c⟩ := isOf hZ509 e783 f536
    obtain ⟨_, _, ⟨T786, L786, k786, n786⟩, -, X786, ⟨Lc786, hQ786, l786, y786, z786⟩, st786⟩ := X783.virtualBack hx (y := own_y37) (z := own_y37) hown509 (mvT hZ509 (own_g hw 209 rfl)) (mvT hZ509 (own_g hw 210 rfl)) (notFace_of_selects (args := #[]) (mvT hZ509 (own_g hw 212 rfl))) (mvT hZ509 (own_g hw 212 rfl)) (mvT hZ509 (own_g hw 211 rfl)) (by decide) (backOf (W := 0) (rmEs l Z a0 hw [] sgx T509.heap n0 f510 f536) hZ509 (own_g hw 213 rfl) (own_g hw 14 rfl) (by decide) (by decide)) q787a q787c (g := (mkF m 204 #[iv p0, iv p1, iv p2, iv p3, iv p4, rv b1, iv (1 : Int32), iv nn, iv c0, iv c1, iv c2, rv sgx, rv sgx, .unset, .unset, .unset, .unset, .unset] [(.ref sgx), (.ref sgx)])) rfl (by rw [hml]; rfl) (Steps.refl _) (argsL := [(.ref sgx)]) (rest := []) (lenOf pd__Ljava_lang_Object__Z rfl) rfl (by show 2 * 0 + _ ≤ _; exact Nat.le_of_eq rfl) (hb hby at_204) (fun _ _ => ⟨rfl, e783, (by decide : 7 + 0 ≤ _), (by decide : 16 + 0 ≤ _)⟩)
    dsimp only [Pt.U, Pt.locs, Pt.cells, Pt.slots] at X786 l786 y786 z786 st786 hQ786
    subst l786 y786 z786
    obtain ⟨rfl, N786q, e786⟩ := hQ786
    have N786 := Fr.app N783 N786q
    obtain ⟨fs, hr, hrun, hended, hW, hsame⟩ := X786.leave (v := some (.int (1 : Int32))) (fun h => by rw [Bd.returns] at h; cases h)
    have qE := hS509.ended (c := room_1.cells) (k := room_1.slots) hW (show _ ≤ T786.heap.size from (by rw [e786]; exact f533)) (hsame.mono (by decide) (by decide))
    refine ⟨_, _, pre785 _ ?_, hrun, hended, _, _, rfl, ?_, ⟨_, rfl⟩, qE.1, qE.2.1, qE.2.2⟩
    · show Steps _ _ _ (T783.setTop (mkF m 204 #[iv p0, iv p1, iv p2, iv p3, iv p4, rv b1, iv (1 : Int32), iv nn, iv c0, iv c1, iv c2, rv sgx, rv sgx, .unset, .unset, .unset, .unset, .unset] [(.ref sgx), (.ref sgx)])) _
      refine st786.trans ?_
      show Steps _ _ _ (T786.setTop (mkF m 207 #[iv p0, iv p1, iv p2, iv p3, iv p4, rv b1, iv (1 : Int32), iv nn, iv c0, iv c1, iv c2, rv sgx, rv sgx, .unset, .unset, .unset, .unset, .unset] [(.int (1 : Int32))])) _
      exact retN X786 hx (t := .boolean) Bd.returns (by simp) (hb hby at_207) hr
    · show own_Q0 n0 _ T786.heap _
      rw [e786]
      exact ⟨rfl, N786⟩
  · rw [hi] at pre540
    obtain ⟨cl788, Ar788, qq788, S788, N788_, H788, G788⟩ := id f535
    have hin788 : ¬ ((2 : Int32) < 0 ∨ cl788.slots.size ≤ ((2 : Int32)).toNatClampNeg) := inb_of S788 ⟨by decide, by decide⟩
    have hat788 : cl788.slots[((2 : Int32)).toNatClampNeg]? = some (.ref wH) := H788.at hin788 rfl
    have pre789 : ∀ t, Steps p.tables e below (T509.setTop (mkF m 176 #[iv p0, iv p1, iv p2, iv p3, iv p4, rv b1, iv (2 : Int32), iv nn, iv c0, iv c1, iv c2, rv sgx, .unset, .unset, .unset, .unset, .unset, .unset] [(.ref sgx), (.ref wH)])) t → Steps p.tables e below (s₁.setTop (entryFrame m #[(.int p0), (.int p1), (.int p2), (.int p3), (.int p4)] maxLocals)) t := fun t kt => pre540 t (by
     refine X509.aaload hx (j := (2 : Int32)) (v := (.ref wH)) Ar788.1 (State.isArrayOf_alike hZ509.alike Ar788.2.1) rfl Ar788.2.2 hin788 hat788 (g := (mkF m 173 #[iv p0, iv p1, iv p2, iv p3, iv p4, rv b1, iv (2 : Int32), iv nn, iv c0, iv c1, iv c2, rv sgx, .unset, .unset, .unset, .unset, .unset, .unset] [(.int (2 : Int32)), (.ref b1)])) rfl rfl (hb hby at_173) _ ?_
     refine XS.aload X509.here hx rfl (hb hby at_174) rfl rfl ?_
     exact kt)
    obtain ⟨cq791, kq791, q791a, q791b, q791c⟩ := isOf hZ509 rfl f524
    obtain ⟨_, _, ⟨T790, L790, k790, n790⟩, -, Xw790, hSw790, gr790, ⟨Lc790, hQ790, l790, y790, z790, CHq790⟩, st790⟩ := X509.virtualBackS hx (y := own_y35) (z := own_y35) hown509 (mvT hZ509 (own_g hw 42 rfl)) (mvT hZ509 (own_g hw 43 rfl)) (notFace_of_selects (args := #[]) (mvT hZ509 (own_g hw 45 rfl))) (mvT hZ509 (own_g hw 45 rfl)) (mvT hZ509 (own_g hw 44 rfl)) (by decide) (backOfSH (W := 0) (rmT1 l Z a0 hw [] wH sgx tywH twwH kwwH (7 : Int32) [(.int (86 : Int32)), (.int (65 : Int32)), (.int (82 : Int32)), (.int (67 : Int32)), (.int (72 : Int32)), (.int (65 : Int32)), (.int (82 : Int32))] tx ktx nn vsx (own_cl nn c0 c1 c2) ([86, 65, 82, 67, 72, 65, 82] : List Int32) zC T509.heap n0 f510 f524 f525 f526 f527 f528 f529 f536 f537 f538 f539 f511 hz whc (own_cln hnn) (own_hasL rfl) (by unfold own_len; rfl) (own_clk hnn) (Nat.le_of_ble_eq_true rfl)) hZ509 (own_g hw 46 rfl) (own_g hw 3 rfl) (by decide) (by decide) hEL CH509.1) q791a q791c (g := (mkF m 176 #[iv p0, iv p1, iv p2, iv p3, iv p4, rv b1, iv (2 : Int32), iv nn, iv c0, iv c1, iv c2, rv sgx, .unset, .unset, .unset, .unset, .unset, .unset] [(.ref sgx), (.ref wH)])) rfl (by rw [hml]; rfl) (Steps.refl _) (argsL := [(.ref sgx)]) (rest := []) (lenOf pd__Ljava_lang_String__Ljava_lang_String_ rfl) rfl (by show 2 * 0 + _ ≤ _; exact Nat.le_of_eq rfl) (hb hby at_176) (fun _ _ => ⟨rfl, rfl, (by decide : 7 + 15 ≤ _), (by decide : 16 + 280 ≤ _)⟩)
    dsimp only [Pt.U, Pt.locs, Pt.cells, Pt.slots] at Xw790 hSw790 gr790 l790 y790 z790 st790 hQ790 CHq790
    subst l790 y790 z790
    obtain ⟨X790, hS790, hZ790, hown790⟩ := rebS hS509 f533 Xw790 hSw790 gr790 hZ509 hown509
    obtain ⟨sg_790, yv_790, ky_790, zl_790, ys_790, rfl, N790q, K790, sx790_0, sx790_1, px790_0, f792, f793, f794, f795, f796, f797⟩ := hQ790
    have osg_790 : n0 ≤ sg_790 := Nat.le_trans f510 sx790_0
    have zsg_790 : h0.size ≤ sg_790 := Nat.le_trans K509.1 sx790_0
    have ne798 : sgx ≠ sg_790 := Nat.ne_of_lt (Nat.lt_of_lt_of_le f536.lt sx790_0)
    have ne799 : tx ≠ sg_790 := Nat.ne_of_lt (Nat.lt_of_lt_of_le f539.lt sx790_0)
    have ne800 : wP ≠ sg_790 := Nat.ne_of_lt (Nat.lt_of_lt_of_le f514.lt sx790_0)
    have ne801 : tywP ≠ sg_790 := Nat.ne_of_lt (Nat.lt_of_lt_of_le f516.lt sx790_0)
    have ne802 : twwP ≠ sg_790 := Nat.ne_of_lt (Nat.lt_of_lt_of_le f519.lt sx790_0)
    have ne803 : wM ≠ sg_790 := Nat.ne_of_lt (Nat.lt_of_lt_of_le f521.lt sx790_0)
    have ne804 : wH ≠ sg_790 := Nat.ne_of_lt (Nat.lt_of_lt_of_le f524.lt sx790_0)
    have ne805 : tywH ≠ sg_790 := Nat.ne_of_lt (Nat.lt_of_lt_of_le f526.lt sx790_0)
    have ne806 : twwH ≠ sg_790 := Nat.ne_of_lt (Nat.lt_of_lt_of_le f529.lt sx790_0)
    have ne807 : wQ ≠ sg_790 := Nat.ne_of_lt (Nat.lt_of_lt_of_le f531.lt sx790_0)
    have ne808 : b1 ≠ sg_790 := Nat.ne_of_lt (Nat.lt_of_lt_of_le f535.lt sx790_0)
    have oyv_790 : n0 ≤ yv_790 := Nat.le_trans f510 sx790_1
    have zyv_790 : h0.size ≤ yv_790 := Nat.le_trans K509.1 sx790_1
    have ne809 : sgx ≠ yv_790 := Nat.ne_of_lt (Nat.lt_of_lt_of_le f536.lt sx790_1)
    have ne810 : tx ≠ yv_790 := Nat.ne_of_lt (Nat.lt_of_lt_of_le f539.lt sx790_1)
    have ne811 : wP ≠ yv_790 := Nat.ne_of_lt (Nat.lt_of_lt_of_le f514.lt sx790_1)
    have ne812 : tywP ≠ yv_790 := Nat.ne_of_lt (Nat.lt_of_lt_of_le f516.lt sx790_1)
    have ne813 : twwP ≠ yv_790 := Nat.ne_of_lt (Nat.lt_of_lt_of_le f519.lt sx790_1)
    have ne814 : wM ≠ yv_790 := Nat.ne_of_lt (Nat.lt_of_lt_of_le f521.lt sx790_1)
    have ne815 : wH ≠ yv_790 := Nat.ne_of_lt (Nat.lt_of_lt_of_le f524.lt sx790_1)
    have ne816 : tywH ≠ yv_790 := Nat.ne_of_lt (Nat.lt_of_lt_of_le f526.lt sx790_1)
    have ne817 : twwH ≠ yv_790 := Nat.ne_of_lt (Nat.lt_of_lt_of_le f529.lt sx790_1)
    have ne818 : wQ ≠ yv_790 := Nat.ne_of_lt (Nat.lt_of_lt_of_le f531.lt sx790_1)
    have ne819 : b1 ≠ yv_790 := Nat.ne_of_lt (Nat.lt_of_lt_of_le f535.lt sx790_1)
    have KK790 : Keep h0 T790.heap [] := Keep.trans K509 K790 all0
    have CH820 : CHr Z own_EL s.vm h0 T790.vm T790.heap := CH509.trans CHq790
    have Yr821 : Safe Z own_EL T790.vm T790.heap b1 := CHr.safe CHq790 f535.lt f534
    have N790 := Fr.app N509 N790q
    have pre822 : ∀ t, Steps p.tables e below (T790.setTop (mkF m 235 #[iv p0, iv p1, iv p2, iv p3, iv p4, rv b1, iv (2 : Int32), iv nn, iv c0, iv c1, iv c2, rv sgx, rv sg_790, iv (0 : Int32), iv (7 : Int32), .unset, .unset, .unset] [(.ref sg_790)])) t → Steps p.tables e below (s₁.setTop (entryFrame m #[(.int p0), (.int p1), (.int p2), (.int p3), (.int p4)] maxLocals)) t := fun t kt => pre789 t (by
     show Steps _ _ _ (T509.setTop (mkF m 176 #[iv p0, iv p1, iv p2, iv p3, iv p4, rv b1, iv (2 : Int32), iv nn, iv c0, iv c1, iv c2, rv sgx, .unset, .unset, .unset, .unset, .unset, .unset] [(.ref sgx), (.ref wH)])) _
     refine st790.trans ?_
     refine XS.astore X790.here hx rfl (hb hby at_179) rfl rfl (l' := #[iv p0, iv p1, iv p2, iv p3, iv p4, rv b1, iv (2 : Int32), iv nn, iv c0, iv c1, iv c2, rv sgx, rv sg_790, .unset, .unset, .unset, .unset, .unset]) rfl ?_
     refine XS.aload X790.here hx rfl (hb hby at_181) rfl rfl ?_
     show Steps _ _ _ (T790.setTop (mkF m 183 #[iv p0, iv p1, iv p2, iv p3, iv p4, rv b1, iv (2 : Int32), iv nn, iv c0, iv c1, iv c2, rv sgx, rv sg_790, .unset, .unset, .unset, .unset, .unset] [(.ref sg_790)])) _
     refine XS.ifnonnullYes X790.here hx rfl (pc0 := 183) (pc' := 188) rfl (hb hby at_183) rfl (by decide) (by decide) ?_
     refine XS.iload X790.here hx rfl (hb hby at_188) rfl ?_
     refine XS.iconst X790.here hx rfl (hb hby at_190) ?_
     refine XS.icmpNo X790.here hx rfl (hb hby at_191) rfl (feq (by decide : ¬ ((2 : Int32) = (1 : Int32)))).1 ?_
     refine XS.iload X790.here hx rfl (hb hby at_194) rfl ?_
     refine XS.iconst X790.here hx rfl (hb hby at_196) ?_
     refine XS.icmpYes X790.here hx rfl (pc0 := 197) (pc' := 208) rfl (hb hby at_197) rfl (feq (by decide : ¬ ((2 : Int32) = (3 : Int32)))).2 (by decide) (by decide) ?_
     refine XS.iload X790.here hx rfl (hb hby at_208) rfl ?_
     refine XS.ifYes X790.here hx rfl (pc0 := 210) (pc' := 217) rfl (hb hby at_210) rfl ((if0 _ _).trans (feq (by decide : ¬ ((2 : Int32) = (0 : Int32)))).2) (by decide) (by decide) ?_
     refine XS.iconst X790.here hx rfl (hb hby at_217) ?_
     refine XS.istore X790.here hx rfl (hb hby at_218) rfl (l' := #[iv p0, iv p1, iv p2, iv p3, iv p4, rv b1, iv (2 : Int32), iv nn, iv c0, iv c1, iv c2, rv sgx, rv sg_790, iv (0 : Int32), .unset, .unset, .unset, .unset]) rfl ?_
     refine XS.iload X790.here hx rfl (hb hby at_220) rfl ?_
     refine XS.ifYes X790.here hx rfl (pc0 := 222) (pc' := 229) rfl (hb hby at_222) rfl ((if0 _ _).trans (teq (by decide : (0 : Int32) = (0 : Int32))).1) (by decide) (by decide) ?_
     refine XS.bipush X790.here hx rfl (hb hby at_229) ?_
     refine XS.istore X790.here hx rfl (hb hby at_231) rfl (l' := #[iv p0, iv p1, iv p2, iv p3, iv p4, rv b1, iv (2 : Int32), iv nn, iv c0, iv c1, iv c2, rv sgx, rv sg_790, iv (0 : Int32), iv (7 : Int32), .unset, .unset, .unset]) rfl ?_
     refine XS.aload X790.here hx rfl (hb hby at_233) rfl rfl ?_
     exact kt)
    have f823 := (own_staKeep f511 K790 ns0)
    have f824 := (Nat.le_trans f510 K790.1)
    obtain ⟨cq826, kq826, q826a, q826b, q826c⟩ := isOf hZ790 rfl f792
    obtain ⟨_, _, ⟨T825, L825, k825, n825⟩, -, X825, ⟨Lc825, hQ825, l825, y825, z825⟩, st825⟩ := X790.virtualBack hx (y := own_y2) (z := own_y2) hown790 (mvT hZ790 (own_g hw 181 rfl)) (mvT hZ790 (own_g hw 81 rfl)) (notFace_of_selects (args := #[]) (mvT hZ790 (own_g hw 83 rfl))) (mvT hZ790 (own_g hw 83 rfl)) (mvT hZ790 (own_g hw 82 rfl)) (by decide) (backOf (W := 0) (rmLe l Z a0 hw [] sg_790 yv_790 ky_790 zl_790 ys_790 zC T790.heap n0 f824 f792 f793 f794 f795 f823 hz) hZ790 (own_g hw 84 rfl) (own_g hw 14 rfl) (by decide) (by decide)) q826a q826c (g := (mkF m 235 #[iv p0, iv p1, iv p2, iv p3, iv p4, rv b1, iv (2 : Int32), iv nn, iv c0, iv c1, iv c2, rv sgx, rv sg_790, iv (0 : Int32), iv (7 : Int32), .unset, .unset, .unset] [(.ref sg_790)])) rfl (by rw [hml]; rfl) (Steps.refl _) (argsL := []) (rest := []) (lenOf pd___I rfl) rfl (by show 2 * 0 + _ ≤ _; exact Nat.le_of_eq rfl) (hb hby at_235) (fun _ _ => ⟨rfl, rfl, (by decide : 22 + 0 ≤ _), (by decide : 296 + 0 ≤ _)⟩)
    dsimp only [Pt.U, Pt.locs, Pt.cells, Pt.slots] at X825 l825 y825 z825 st825 hQ825
    subst l825 y825 z825
    obtain ⟨rfl, N825q, e825⟩ := hQ825
    have N825 := Fr.app N790 N825q
    have pre827 : ∀ t, Steps p.tables e below (T825.setTop (mkF m 266 #[iv p0, iv p1, iv p2, iv p3, iv p4, rv b1, iv (2 : Int32), iv nn, iv c0, iv c1, iv c2, rv sgx, rv sg_790, iv (0 : Int32), iv (7 : Int32), iv (1 : Int32), .unset, .unset] [(.int (67 : Int32)), (.int (0 : Int32)), (.ref sg_790)])) t → Steps p.tables e below (s₁.setTop (entryFrame m #[(.int p0), (.int p1), (.int p2), (.int p3), (.int p4)] maxLocals)) t := fun t kt => pre822 t (by
     show Steps _ _ _ (T790.setTop (mkF m 235 #[iv p0, iv p1, iv p2, iv p3, iv p4, rv b1, iv (2 : Int32), iv nn, iv c0, iv c1, iv c2, rv sgx, rv sg_790, iv (0 : Int32), iv (7 : Int32), .unset, .unset, .unset] [(.ref sg_790)])) _
     refine st825.trans ?_
     refine XS.bipush X825.here hx rfl (hb hby at_238) ?_
     refine XS.iload X825.here hx rfl (hb hby at_240) rfl ?_
     refine XS.iadd X825.here hx rfl (hb hby at_242) rfl ?_
     refine XS.iload X825.here hx rfl (hb hby at_243) rfl ?_
     refine XS.iadd X825.here hx rfl (hb hby at_245) rfl ?_
     refine XS.icmpNo X825.here hx rfl (hb hby at_246) rfl (teq (by rcases hnn with h | h | h | h <;> subst h <;> exact own_lz f797 rfl)).2 ?_
     refine XS.iconst X825.here hx rfl (hb hby at_249) ?_
     refine XS.goto X825.here hx rfl (pc0 := 250) (pc' := 254) rfl (hb hby at_250) (by decide) (by decide) ?_
     show Steps _ _ _ (T825.setTop (mkF m 254 #[iv p0, iv p1, iv p2, iv p3, iv p4, rv b1, iv (2 : Int32), iv nn, iv c0, iv c1, iv c2, rv sgx, rv sg_790, iv (0 : Int32), iv (7 : Int32), .unset, .unset, .unset] [(.int (1 : Int32))])) _
     refine XS.istore X825.here hx rfl (hb hby at_254) rfl (l' := #[iv p0, iv p1, iv p2, iv p3, iv p4, rv b1, iv (2 : Int32), iv nn, iv c0, iv c1, iv c2, rv sgx, rv sg_790, iv (0 : Int32), iv (7 : Int32), iv (1 : Int32), .unset, .unset]) rfl ?_
     refine XS.iload X825.here hx rfl (hb hby at_256) rfl ?_
     refine XS.ifNo X825.here hx rfl (hb hby at_258) rfl ((if0 _ _).trans (feq (by decide : ¬ ((1 : Int32) = (0 : Int32)))).1) ?_
     refine XS.aload X825.here hx rfl (hb hby at_261) rfl rfl ?_
     refine XS.iconst X825.here hx rfl (hb hby at_263) ?_
     refine XS.bipush X825.here hx rfl (hb hby at_264) ?_
     exact kt)
    have f828 := (own_staKeep f512 K790 ns0)
    obtain ⟨_, _, ⟨T829, L829, k829, n829⟩, -, X829, ⟨Lc829, hQ829, l829, y829, z829⟩, st829⟩ := Jvm.LawKit.callS X825 hx (y := own_y36) hown790 (mvT hZ790 (own_g hw 182 rfl)) (mvT hZ790 (own_g hw 183 rfl)) (mvT hZ790 (own_g hw 184 rfl)) (mvT hZ790 (own_g hw 185 rfl)) (by decide) (backOf (W := 0) (rmEq l Z a0 hw [] sg_790 (0 : Int32) (67 : Int32) yv_790 ky_790 zl_790 ys_790 zC fv T790.heap n0 f824 f792 f793 f794 f795 f823 hz f828 hfv (by decide) (by rcases hnn with h | h | h | h <;> subst h <;> exact own_il f797 (by decide) (Nat.le_of_ble_eq_true rfl)) (by rcases hnn with h | h | h | h <;> subst h <;> exact own_eqc f796 (Nat.le_of_ble_eq_true rfl) (show nar .char (own_ch (67 : Int32)) = (67 : Int32) from by decide))) hZ790 (own_g hw 185 rfl) (own_g hw 184 rfl) (by decide) (by decide)) (g := (mkF m 266 #[iv p0, iv p1, iv p2, iv p3, iv p4, rv b1, iv (2 : Int32), iv nn, iv c0, iv c1, iv c2, rv sgx, rv sg_790, iv (0 : Int32), iv (7 : Int32), iv (1 : Int32), .unset, .unset] [(.int (67 : Int32)), (.int (0 : Int32)), (.ref sg_790)])) rfl (by rw [hml]; rfl) (argsL := [(.ref sg_790), (.int (0 : Int32)), (.int (67 : Int32))]) (rest := []) (lenOf pd__Ljava_lang_String_IC_Z rfl) rfl (by show 2 * 0 + _ ≤ _; exact Nat.le_of_eq rfl) (hb hby at_266) (fun _ _ => ⟨rfl, e825, (by decide : 22 + 0 ≤ _), (by decide : 296 + 0 ≤ _)⟩)
    dsimp only [Pt.U, Pt.locs, Pt.cells, Pt.slots] at X829 l829 y829 z829 st829 hQ829
    subst l829 y829 z829
    obtain ⟨rfl, N829q, e829⟩ := hQ829
    have N829 := Fr.app N825 N829q
    have pre830 : ∀ t, Steps p.tables e below (T829.setTop (mkF m 277 #[iv p0, iv p1, iv p2, iv p3, iv p4, rv b1, iv (2 : Int32), iv nn, iv c0, iv c1, iv c2, rv sgx, rv sg_790, iv (0 : Int32), iv (7 : Int32), iv (1 : Int32), .unset, .unset] [(.int (65 : Int32)), (.int (1 : Int32)), (.ref sg_790)])) t → Steps p.tables e below (s₁.setTop (entryFrame m #[(.int p0), (.int p1), (.int p2), (.int p3), (.int p4)] maxLocals)) t := fun t kt => pre827 t (by
     show Steps _ _ _ (T825.setTop (mkF m 266 #[iv p0, iv p1, iv p2, iv p3, iv p4, rv b1, iv (2 : Int32), iv nn, iv c0, iv c1, iv c2, rv sgx, rv sg_790, iv (0 : Int32), iv (7 : Int32), iv (1 : Int32), .unset, .unset] [(.int (67 : Int32)), (.int (0 : Int32)), (.ref sg_790)])) _
     refine st829 _ ?_
     refine XS.ifNo X829.here hx rfl (hb hby at_269) rfl ((if0 _ _).trans (feq (by decide : ¬ ((1 : Int32) = (0 : Int32)))).1) ?_
     refine XS.aload X829.here hx rfl (hb hby at_272) rfl rfl ?_
     refine XS.iconst X829.here hx rfl (hb hby at_274) ?_
     refine XS.bipush X829.here hx rfl (hb hby at_275) ?_
     exact kt)
    obtain ⟨_, _, ⟨T831, L831, k831, n831⟩, -, X831, ⟨Lc831, hQ831, l831, y831, z831⟩, st831⟩ := Jvm.LawKit.callS X829 hx (y := own_y36) hown790 (mvT hZ790 (own_g hw 182 rfl)) (mvT hZ790 (own_g hw 183 rfl)) (mvT hZ790 (own_g hw 184 rfl)) (mvT hZ790 (own_g hw 185 rfl)) (by decide) (backOf (W := 0) (rmEq l Z a0 hw [] sg_790 (1 : Int32) (65 : Int32) yv_790 ky_790 zl_790 ys_790 zC fv T790.heap n0 f824 f792 f793 f794 f795 f823 hz f828 hfv (by decide) (by rcases hnn with h | h | h | h <;> subst h <;> exact own_il f797 (by decide) (Nat.le_of_ble_eq_true rfl)) (by rcases hnn with h | h | h | h <;> subst h <;> exact own_eqc f796 (Nat.le_of_ble_eq_true rfl) (show nar .char (own_ch (65 : Int32)) = (65 : Int32) from by decide))) hZ790 (own_g hw 185 rfl) (own_g hw 184 rfl) (by decide) (by decide)) (g := (mkF m 277 #[iv p0, iv p1, iv p2, iv p3, iv p4, rv b1, iv (2 : Int32), iv nn, iv c0, iv c1, iv c2, rv sgx, rv sg_790, iv (0 : Int32), iv (7 : Int32), iv (1 : Int32), .unset, .unset] [(.int (65 : Int32)), (.int (1 : Int32)), (.ref sg_790)])) rfl (by rw [hml]; rfl) (argsL := [(.ref sg_790), (.int (1 : Int32)), (.int (65 : Int32))]) (rest := []) (lenOf pd__Ljava_lang_String_IC_Z rfl) rfl (by show 2 * 0 + _ ≤ _; exact Nat.le_of_eq rfl) (hb hby at_277) (fun _ _ => ⟨rfl, e829, (by decide : 22 + 0 ≤ _), (by decide : 296 + 0 ≤ _)⟩)
    dsimp only [Pt.U, Pt.locs, Pt.cells, Pt.slots] at X831 l831 y831 z831 st831 hQ831
    subst l831 y831 z831
    obtain ⟨rfl, N831q, e831⟩ := hQ831
    have N831 := Fr.app N829 N831q
    have pre832 : ∀ t, Steps p.tables e below (T831.setTop (mkF m 288 #[iv p0, iv p1, iv p2, iv p3, iv p4, rv b1, iv (2 : Int32), iv nn, iv c0, iv c1, iv c2, rv sgx, rv sg_790, iv (0 : Int32), iv (7 : Int32), iv (1 : Int32), .unset, .unset] [(.int (83 : Int32)), (.int (2 : Int32)), (.ref sg_790)])) t → Steps p.tables e below (s₁.setTop (entryFrame m #[(.int p0), (.int p1), (.int p2), (.int p3), (.int p4)] maxLocals)) t := fun t kt => pre830 t (by
     show Steps _ _ _ (T829.setTop (mkF m 277 #[iv p0, iv p1, iv p2, iv p3, iv p4, rv b1, iv (2 : Int32), iv nn, iv c0, iv c1, iv c2, rv sgx, rv sg_790, iv (0 : Int32), iv (7 : Int32), iv (1 : Int32), .unset, .unset] [(.int (65 : Int32)), (.int (1 : Int32)), (.ref sg_790)])) _
     refine st831 _ ?_
     refine XS.ifNo X831.here hx rfl (hb hby at_280) rfl ((if0 _ _).trans (feq (by decide : ¬ ((1 : Int32) = (0 : Int32)))).1) ?_
     refine XS.aload X831.here hx rfl (hb hby at_283) rfl rfl ?_
     refine XS.iconst X831.here hx rfl (hb hby at_285) ?_
     refine XS.bipush X831.here hx rfl (hb hby at_286) ?_
     exact kt)
    obtain ⟨_, _, ⟨T833, L833, k833, n833⟩, -, X833, ⟨Lc833, hQ833, l833, y833, z833⟩, st833⟩ := Jvm.LawKit.callS X831 hx (y := own_y36) hown790 (mvT hZ790 (own_g hw 182 rfl)) (mvT hZ790 (own_g hw 183 rfl)) (mvT hZ790 (own_g hw 184 rfl)) (mvT hZ790 (own_g hw 185 rfl)) (by decide) (backOf (W := 0) (rmEq l Z a0 hw [] sg_790 (2 : Int32) (83 : Int32) yv_790 ky_790 zl_790 ys_790 zC fv T790.heap n0 f824 f792 f793 f794 f795 f823 hz f828 hfv (by decide) (by rcases hnn with h | h | h | h <;> subst h <;> exact own_il f797 (by decide) (Nat.le_of_ble_eq_true rfl)) (by rcases hnn with h | h | h | h <;> subst h <;> exact own_eqc f796 (Nat.le_of_ble_eq_true rfl) (show nar .char (own_ch (83 : Int32)) = (83 : Int32) from by decide))) hZ790 (own_g hw 185 rfl) (own_g hw 184 rfl) (by decide) (by decide)) (g := (mkF m 288 #[iv p0, iv p1, iv p2, iv p3, iv p4, rv b1, iv (2 : Int32), iv nn, iv c0, iv c1, iv c2, rv sgx, rv sg_790, iv (0 : Int32), iv (7 : Int32), iv (1 : Int32), .unset, .unset] [(.int (83 : Int32)), (.int (2 : Int32)), (.ref sg_790)])) rfl (by rw [hml]; rfl) (argsL := [(.ref sg_790), (.int (2 : Int32)), (.int (83 : Int32))]) (rest := []) (lenOf pd__Ljava_lang_String_IC_Z rfl) rfl (by show 2 * 0 + _ ≤ _; exact Nat.le_of_eq rfl) (hb hby at_288) (fun _ _ => ⟨rfl, e831, (by decide : 22 + 0 ≤ _), (by decide : 296 + 0 ≤ _)⟩)
    dsimp only [Pt.U, Pt.locs, Pt.cells, Pt.slots] at X833 l833 y833 z833 st833 hQ833
    subst l833 y833 z833
    obtain ⟨rfl, N833q, e833⟩ := hQ833
    have N833 := Fr.app N831 N833q
    have pre834 : ∀ t, Steps p.tables e below (T833.setTop (mkF m 299 #[iv p0, iv p1, iv p2, iv p3, iv p4, rv b1, iv (2 : Int32), iv nn, iv c0, iv c1, iv c2, rv sgx, rv sg_790, iv (0 : Int32), iv (7 : Int32), iv (1 : Int32), .unset, .unset] [(.int (84 : Int32)), (.int (3 : Int32)), (.ref sg_790)])) t → Steps p.tables e below (s₁.setTop (entryFrame m #[(.int p0), (.int p1), (.int p2), (.int p3), (.int p4)] maxLocals)) t := fun t kt => pre832 t (by
     show Steps _ _ _ (T831.setTop (mkF m 288 #[iv p0, iv p1, iv p2, iv p3, iv p4, rv b1, iv (2 : Int32), iv nn, iv c0, iv c1, iv c2, rv sgx, rv sg_790, iv (0 : Int32), iv (7 : Int32), iv (1 : Int32), .unset, .unset] [(.int (83 : Int32)), (.int (2 : Int32)), (.ref sg_790)])) _
     refine st833 _ ?_
     refine XS.ifNo X833.here hx rfl (hb hby at_291) rfl ((if0 _ _).trans (feq (by decide : ¬ ((1 : Int32) = (0 : Int32)))).1) ?_
     refine XS.aload X833.here hx rfl (hb hby at_294) rfl rfl ?_
     refine XS.iconst X833.here hx rfl (hb hby at_296) ?_
     refine XS.bipush X833.here hx rfl (hb hby at_297) ?_
     exact kt)
    obtain ⟨_, _, ⟨T835, L835, k835, n835⟩, -, X835, ⟨Lc835, hQ835, l835, y835, z835⟩, st835⟩ := Jvm.LawKit.callS X833 hx (y := own_y36) hown790 (mvT hZ790 (own_g hw 182 rfl)) (mvT hZ790 (own_g hw 183 rfl)) (mvT hZ790 (own_g hw 184 rfl)) (mvT hZ790 (own_g hw 185 rfl)) (by decide) (backOf (W := 0) (rmEq l Z a0 hw [] sg_790 (3 : Int32) (84 : Int32) yv_790 ky_790 zl_790 ys_790 zC fv T790.heap n0 f824 f792 f793 f794 f795 f823 hz f828 hfv (by decide) (by rcases hnn with h | h | h | h <;> subst h <;> exact own_il f797 (by decide) (Nat.le_of_ble_eq_true rfl)) (by rcases hnn with h | h | h | h <;> subst h <;> exact own_eqc f796 (Nat.le_of_ble_eq_true rfl) (show nar .char (own_ch (84 : Int32)) = (84 : Int32) from by decide))) hZ790 (own_g hw 185 rfl) (own_g hw 184 rfl) (by decide) (by decide)) (g := (mkF m 299 #[iv p0, iv p1, iv p2, iv p3, iv p4, rv b1, iv (2 : Int32), iv nn, iv c0, iv c1, iv c2, rv sgx, rv sg_790, iv (0 : Int32), iv (7 : Int32), iv (1 : Int32), .unset, .unset] [(.int (84 : Int32)), (.int (3 : Int32)), (.ref sg_790)])) rfl (by rw [hml]; rfl) (argsL := [(.ref sg_790), (.int (3 : Int32)), (.int (84 : Int32))]) (rest := []) (lenOf pd__Ljava_lang_String_IC_Z rfl) rfl (by show 2 * 0 + _ ≤ _; exact Nat.le_of_eq rfl) (hb hby at_299) (fun _ _ => ⟨rfl, e833, (by decide : 22 + 0 ≤ _), (by decide : 296 + 0 ≤ _)⟩)
    dsimp only [Pt.U, Pt.locs, Pt.cells, Pt.slots] at X835 l835 y835 z835 st835 hQ835
    subst l835 y835 z835
    obtain ⟨rfl, N835q, e835⟩ := hQ835
    have N835 := Fr.app N833 N835q
    have pre836 : ∀ t, Steps p.tables e below (T835.setTop (mkF m 310 #[iv p0, iv p1, iv p2, iv p3, iv p4, rv b1, iv (2 : Int32), iv nn, iv c0, iv c1, iv c2, rv sgx, rv sg_790, iv (0 : Int32), iv (7 : Int32), iv (1 : Int32), .unset, .unset] [(.int (40 : Int32)), (.int (4 : Int32)), (.ref sg_790)])) t → Steps p.tables e below (s₁.setTop (entryFrame m #[(.int p0), (.int p1), (.int p2), (.int p3), (.int p4)] maxLocals)) t := fun t kt => pre834 t (by
     show Steps _ _ _ (T833.setTop (mkF m 299 #[iv p0, iv p1, iv p2, iv p3, iv p4, rv b1, iv (2 : Int32), iv nn, iv c0, iv c1, iv c2, rv sgx, rv sg_790, iv (0 : Int32), iv (7 : Int32), iv (1 : Int32), .unset, .unset] [(.int (84 : Int32)), (.int (3 : Int32)), (.ref sg_790)])) _
     refine st835 _ ?_
     refine XS.ifNo X835.here hx rfl (hb hby at_302) rfl ((if0 _ _).trans (feq (by decide : ¬ ((1 : Int32) = (0 : Int32)))).1) ?_
     refine XS.aload X835.here hx rfl (hb hby at_305) rfl rfl ?_
     refine XS.iconst X835.here hx rfl (hb hby at_307) ?_
     refine XS.bipush X835.here hx rfl (hb hby at_308) ?_
     exact kt)
    obtain ⟨_, _, ⟨T837, L837, k837, n837⟩, -, X837, ⟨Lc837, hQ837, l837, y837, z837⟩, st837⟩ := Jvm.LawKit.callS X835 hx (y := own_y36) hown790 (mvT hZ790 (own_g hw 182 rfl)) (mvT hZ790 (own_g hw 183 rfl)) (mvT hZ790 (own_g hw 184 rfl)) (mvT hZ790 (own_g hw 185 rfl)) (by decide) (backOf (W := 0) (rmEq l Z a0 hw [] sg_790 (4 : Int32) (40 : Int32) yv_790 ky_790 zl_790 ys_790 zC fv T790.heap n0 f824 f792 f793 f794 f795 f823 hz f828 hfv (by decide) (by rcases hnn with h | h | h | h <;> subst h <;> exact own_il f797 (by decide) (Nat.le_of_ble_eq_true rfl)) (by rcases hnn with h | h | h | h <;> subst h <;> exact own_eqc f796 (Nat.le_of_ble_eq_true rfl) (show nar .char (own_ch (40 : Int32)) = (40 : Int32) from by decide))) hZ790 (own_g hw 185 rfl) (own_g hw 184 rfl) (by decide) (by decide)) (g := (mkF m 310 #[iv p0, iv p1, iv p2, iv p3, iv p4, rv b1, iv (2 : Int32), iv nn, iv c0, iv c1, iv c2, rv sgx, rv sg_790, iv (0 : Int32), iv (7 : Int32), iv (1 : Int32), .unset, .unset] [(.int (40 : Int32)), (.int (4 : Int32)), (.ref sg_790)])) rfl (by rw [hml]; rfl) (argsL := [(.ref sg_790), (.int (4 : Int32)), (.int (40 : Int32))]) (rest := []) (lenOf pd__Ljava_lang_String_IC_Z rfl) rfl (by show 2 * 0 + _ ≤ _; exact Nat.le_of_eq rfl) (hb hby at_310) (fun _ _ => ⟨rfl, e835, (by decide : 22 + 0 ≤ _), (by decide : 296 + 0 ≤ _)⟩)
    dsimp only [Pt.U, Pt.locs, Pt.cells, Pt.slots] at X837 l837 y837 z837 st837 hQ837
    subst l837 y837 z837
    obtain ⟨rfl, N837q, e837⟩ := hQ837
    have N837 := Fr.app N835 N837q
    have pre838 : ∀ t, Steps p.tables e below (T837.setTop (mkF m 323 #[iv p0, iv p1, iv p2, iv p3, iv p4, rv b1, iv (2 : Int32), iv nn, iv c0, iv c1, iv c2, rv sgx, rv sg_790, iv (0 : Int32), iv (7 : Int32), iv (1 : Int32), .unset, .unset] [])) t → Steps p.tables e below (s₁.setTop (entryFrame m #[(.int p0), (.int p1), (.int p2), (.int p3), (.int p4)] maxLocals)) t := fun t kt => pre836 t (by
     show Steps _ _ _ (T835.setTop (mkF m 310 #[iv p0, iv p1, iv p2, iv p3, iv p4, rv b1, iv (2 : Int32), iv nn, iv c0, iv c1, iv c2, rv sgx, rv sg_790, iv (0 : Int32), iv (7 : Int32), iv (1 : Int32), .unset, .unset] [(.int (40 : Int32)), (.int (4 : Int32)), (.ref sg_790)])) _
     refine st837 _ ?_
     refine XS.ifNo X837.here hx rfl (hb hby at_313) rfl ((if0 _ _).trans (feq (by decide : ¬ ((1 : Int32) = (0 : Int32)))).1) ?_
     refine XS.iconst X837.here hx rfl (hb hby at_316) ?_
     show Steps _ _ _ (T837.setTop (mkF m 317 #[iv p0, iv p1, iv p2, iv p3, iv p4, rv b1, iv (2 : Int32), iv nn, iv c0, iv c1, iv c2, rv sgx, rv sg_790, iv (0 : Int32), iv (7 : Int32), iv (1 : Int32), .unset, .unset] [(.int (1 : Int32))])) _
     refine XS.goto X837.here hx rfl (pc0 := 317) (pc' := 321) rfl (hb hby at_317) (by decide) (by decide) ?_
     refine XS.istore X837.here hx rfl (hb hby at_321) rfl (l' := #[iv p0, iv p1, iv p2, iv p3, iv p4, rv b1, iv (2 : Int32), iv nn, iv c0, iv c1, iv c2, rv sgx, rv sg_790, iv (0 : Int32), iv (7 : Int32), iv (1 : Int32), .unset, .unset]) rfl ?_
     exact kt)
    have Mg895 : ∃ (T895 : State) (L895 : List Loc), Stand p l e room_1 (s.setVm T790.vm) m #[(.int p0), (.int p1), (.int p2), (.int p3), (.int p4)] below meth c T895 L895 22 296 ∧ Fr n0 L895 ∧ T895.heap = T790.heap ∧ (∀ t, Steps p.tables e below (T895.setTop (mkF m 351 #[iv p0, iv p1, iv p2, iv p3, iv p4, rv b1, iv (2 : Int32), iv nn, iv c0, iv c1, iv c2, rv sgx, rv sg_790, iv (0 : Int32), iv (7 : Int32), iv (1 : Int32), .unset, .unset] [])) t → Steps p.tables e below (s₁.setTop (entryFrame m #[(.int p0), (.int p1), (.int p2), (.int p3), (.int p4)] maxLocals)) t) := by
      have pre840 : ∀ t, Steps p.tables e below (T837.setTop (mkF m 325 #[iv p0, iv p1, iv p2, iv p3, iv p4, rv b1, iv (2 : Int32), iv nn, iv c0, iv c1, iv c2, rv sgx, rv sg_790, iv (0 : Int32), iv (7 : Int32), iv (1 : Int32), .unset, .unset] [(.int nn)])) t → Steps p.tables e below (s₁.setTop (entryFrame m #[(.int p0), (.int p1), (.int p2), (.int p3), (.int p4)] maxLocals)) t := fun t kt => pre838 t (by
       refine XS.iload X837.here hx rfl (hb hby at_323) rfl ?_
       exact kt)
      by_cases hc325_839 : (0 : Int32) < nn
      · have pre841 : ∀ t, Steps p.tables e below (T837.setTop (mkF m 338 #[iv p0, iv p1, iv p2, iv p3, iv p4, rv b1, iv (2 : Int32), iv nn, iv c0, iv c1, iv c2, rv sgx, rv sg_790, iv (0 : Int32), iv (7 : Int32), iv (1 : Int32), .unset, .unset] [(.int c0), (.int (5 : Int32)), (.ref sg_790)])) t → Steps p.tables e below (s₁.setTop (entryFrame m #[(.int p0), (.int p1), (.int p2), (.int p3), (.int p4)] maxLocals)) t := fun t kt => pre840 t (by
         refine XS.ifNo X837.here hx rfl (hb hby at_325) rfl ((if0 _ _).trans (tlt hc325_839).2.2.2) ?_
         refine XS.iload X837.here hx rfl (hb hby at_328) rfl ?_
         refine XS.ifNo X837.here hx rfl (hb hby at_330) rfl ((if0 _ _).trans (feq (by decide : ¬ ((1 : Int32) = (0 : Int32)))).1) ?_
         refine XS.aload X837.here hx rfl (hb hby at_333) rfl rfl ?_
         refine XS.iconst X837.here hx rfl (hb hby at_335) ?_
         refine XS.iload X837.here hx rfl (hb hby at_336) rfl ?_
         exact kt)
        obtain ⟨_, _, ⟨T842, L842, k842, n842⟩, -, X842, ⟨Lc842, hQ842, l842, y842, z842⟩, st842⟩ := Jvm.LawKit.callS X837 hx (y := own_y36) hown790 (mvT hZ790 (own_g hw 182 rfl)) (mvT hZ790 (own_g hw 183 rfl)) (mvT hZ790 (own_g hw 184 rfl)) (mvT hZ790 (own_g hw 185 rfl)) (by decide) (backOf (W := 0) (rmEq l Z a0 hw [] sg_790 (5 : Int32) c0 yv_790 ky_790 zl_790 ys_790 zC fv T790.heap n0 f824 f792 f793 f794 f795 f823 hz f828 hfv (by decide) (by rcases hnn with h | h | h | h <;> subst h <;> first | exact absurd hc325_839 (by decide) | exact own_il f797 (by decide) (Nat.le_of_ble_eq_true rfl)) (by rcases hnn with h | h | h | h <;> subst h <;> first | exact absurd hc325_839 (by decide) | exact own_eqc f796 (Nat.le_of_ble_eq_true rfl) (own_bc hc0))) hZ790 (own_g hw 185 rfl) (own_g hw 184 rfl) (by decide) (by decide)) (g := (mkF m 338 #[iv p0, iv p1, iv p2, iv p3, iv p4, rv b1, iv (2 : Int32), iv nn, iv c0, iv c1, iv c2, rv sgx, rv sg_790, iv (0 : Int32), iv (7 : Int32), iv (1 : Int32), .unset, .unset] [(.int c0), (.int (5 : Int32)), (.ref sg_790)])) rfl (by rw [hml]; rfl) (argsL := [(.ref sg_790), (.int (5 : Int32)), (.int c0)]) (rest := []) (lenOf pd__Ljava_lang_String_IC_Z rfl) rfl (by show 2 * 0 + _ ≤ _; exact Nat.le_of_eq rfl) (hb hby at_338) (fun _ _ => ⟨rfl, e837, (by decide : 22 + 0 ≤ _), (by decide : 296 + 0 ≤ _)⟩)
        dsimp only [Pt.U, Pt.locs, Pt.cells, Pt.slots] at X842 l842 y842 z842 st842 hQ842
        subst l842 y842 z842
        obtain ⟨rfl, N842q, e842⟩ := hQ842
        have N842 := Fr.app N837 N842q
        have pre843 : ∀ t, Steps p.tables e below (T842.setTop (mkF m 351 #[iv p0, iv p1, iv p2, iv p3, iv p4, rv b1, iv (2 : Int32), iv nn, iv c0, iv c1, iv c2, rv sgx, rv sg_790, iv (0 : Int32), iv (7 : Int32), iv (1 : Int32), .unset, .unset] [])) t → Steps p.tables e below (s₁.setTop (entryFrame m #[(.int p0), (.int p1), (.int p2), (.int p3), (.int p4)] maxLocals)) t := fun t kt => pre841 t (by
         show Steps _ _ _ (T837.setTop (mkF m 338 #[iv p0, iv p1, iv p2, iv p3, iv p4, rv b1, iv (2 : Int32), iv nn, iv c0, iv c1, iv c2, rv sgx, rv sg_790, iv (0 : Int32), iv (7 : Int32), iv (1 : Int32), .unset, .unset] [(.int c0), (.int (5 : Int32)), (.ref sg_790)])) _
         refine st842 _ ?_
         refine XS.ifNo X842.here hx rfl (hb hby at_341) rfl ((if0 _ _).trans (feq (by decide : ¬ ((1 : Int32) = (0 : Int32)))).1) ?_
         refine XS.iconst X842.here hx rfl (hb hby at_344) ?_
         refine XS.goto X842.here hx rfl (pc0 := 345) (pc' := 349) rfl (hb hby at_345) (by decide) (by decide) ?_
         refine XS.istore X842.here hx rfl (hb hby at_349) rfl (l' := #[iv p0, iv p1, iv p2, iv p3, iv p4, rv b1, iv (2 : Int32), iv nn, iv c0, iv c1, iv c2, rv sgx, rv sg_790, iv (0 : Int32), iv (7 : Int32), iv (1 : Int32), .unset, .unset]) rfl ?_
         exact kt)
        have f844 := (f536.keep K790)
        have f845 := (f537.keep K790 nin0)
        have f846 := (f538.keep K790 nin0)
        have f847 := (f539.keep K790 nin0)
        have f848 := (own_staKeep f513 K790 ns0)
        have f849 := (f514.keep K790)
        have f850 := (f515.keep K790 nin0)
        have f851 := (f516.keep K790)
        have f852 := (f517.keep K790 nin0)
        have f853 := (f518.keep K790 nin0)
        have f854 := (f519.keep K790 nin0)
        have f855 := (own_staKeep f520 K790 ns0)
        have f856 := (f521.keep K790)
        have f857 := (f522.keep K790 nin0)
        have f858 := (own_staKeep f523 K790 ns0)
        have f859 := (f524.keep K790)
        have f860 := (f525.keep K790 nin0)
        have f861 := (f526.keep K790)
        have f862 := (f527.keep K790 nin0)
        have f863 := (f528.keep K790 nin0)
        have f864 := (f529.keep K790 nin0)
        have f865 := (own_staKeep f530 K790 ns0)
        have f866 := (f531.keep K790)
        have f867 := (f532.keep K790 nin0)
        have f868 := (f535.keep K790 nin0)
        exact ⟨T842, _, X842.more (by decide) (by decide), N842, e842, pre843⟩
      · have pre869 : ∀ t, Steps p.tables e below (T837.setTop (mkF m 351 #[iv p0, iv p1, iv p2, iv p3, iv p4, rv b1, iv (2 : Int32), iv nn, iv c0, iv c1, iv c2, rv sgx, rv sg_790, iv (0 : Int32), iv (7 : Int32), iv (1 : Int32), .unset, .unset] [])) t → Steps p.tables e below (s₁.setTop (entryFrame m #[(.int p0), (.int p1), (.int p2), (.int p3), (.int p4)] maxLocals)) t := fun t kt => pre840 t (by
         refine XS.ifYes X837.here hx rfl (pc0 := 325) (pc' := 351) rfl (hb hby at_325) rfl ((if0 _ _).trans (flt hc325_839).2.2.2) (by decide) (by decide) ?_
         exact kt)
        have f870 := (f536.keep K790)
        have f871 := (f537.keep K790 nin0)
        have f872 := (f538.keep K790 nin0)
        have f873 := (f539.keep K790 nin0)
        have f874 := (own_staKeep f513 K790 ns0)
        have f875 := (f514.keep K790)
        have f876 := (f515.keep K790 nin0)
        have f877 := (f516.keep K790)
        have f878 := (f517.keep K790 nin0)
        have f879 := (f518.keep K790 nin0)
        have f880 := (f519.keep K790 nin0)
        have f881 := (own_staKeep f520 K790 ns0)
        have f882 := (f521.keep K790)
        have f883 := (f522.keep K790 nin0)
        have f884 := (own_staKeep f523 K790 ns0)
        have f885 := (f524.keep K790)
        have f886 := (f525.keep K790 nin0)
        have f887 := (f526.keep K790)
        have f888 := (f527.keep K790 nin0)
        have f889 := (f528.keep K790 nin0)
        have f890 := (f529.keep K790 nin0)
        have f891 := (own_staKeep f530 K790 ns0)
        have f892 := (f531.keep K790)
        have f893 := (f532.keep K790 nin0)
        have f894 := (f535.keep K790 nin0)
        exact ⟨T837, _, X837.more (by decide) (by decide), N837, e837, pre869⟩
    obtain ⟨T895, L895, X895, N895, e895, pre895⟩ := Mg895
    have Mg952 : ∃ (T952 : State) (L952 : List Loc), Stand p l e room_1 (s.setVm T790.vm) m #[(.int p0), (.int p1), (.int p2), (.int p3), (.int p4)] below meth c T952 L952 22 296 ∧ Fr n0 L952 ∧ T952.heap = T790.heap ∧ (∀ t, Steps p.tables e below (T952.setTop (mkF m 381 #[iv p0, iv p1, iv p2, iv p3, iv p4, rv b1, iv (2 : Int32), iv nn, iv c0, iv c1, iv c2, rv sgx, rv sg_790, iv (0 : Int32), iv (7 : Int32), iv (1 : Int32), .unset, .unset] [])) t → Steps p.tables e below (s₁.setTop (entryFrame m #[(.int p0), (.int p1), (.int p2), (.int p3), (.int p4)] maxLocals)) t) := by
      have pre897 : ∀ t, Steps p.tables e below (T895.setTop (mkF m 354 #[iv p0, iv p1, iv p2, iv p3, iv p4, rv b1, iv (2 : Int32), iv nn, iv c0, iv c1, iv c2, rv sgx, rv sg_790, iv (0 : Int32), iv (7 : Int32), iv (1 : Int32), .unset, .unset] [(.int (1 : Int32)), (.int nn)])) t → Steps p.tables e below (s₁.setTop (entryFrame m #[(.int p0), (.int p1), (.int p2), (.int p3), (.int p4)] maxLocals)) t := fun t kt => pre895 t (by
       refine XS.iload X895.here hx rfl (hb hby at_351) rfl ?_
       refine XS.iconst X895.here hx rfl (hb hby at_353) ?_
       exact kt)
      by_cases hc354_896 : (1 : Int32) < nn
      · have pre898 : ∀ t, Steps p.tables e below (T895.setTop (mkF m 368 #[iv p0, iv p1, iv p2, iv p3, iv p4, rv b1, iv (2 : Int32), iv nn, iv c0, iv c1, iv c2, rv sgx, rv sg_790, iv (0 : Int32), iv (7 : Int32), iv (1 : Int32), .unset, .unset] [(.int c1), (.int (6 : Int32)), (.ref sg_790)])) t → Steps p.tables e below (s₁.setTop (entryFrame m #[(.int p0), (.int p1), (.int p2), (.int p3), (.int p4)] maxLocals)) t := fun t kt => pre897 t (by
         refine XS.icmpNo X895.here hx rfl (hb hby at_354) rfl (tlt hc354_896).2.2.2 ?_
         refine XS.iload X895.here hx rfl (hb hby at_357) rfl ?_
         refine XS.ifNo X895.here hx rfl (hb hby at_359) rfl ((if0 _ _).trans (feq (by decide : ¬ ((1 : Int32) = (0 : Int32)))).1) ?_
         refine XS.aload X895.here hx rfl (hb hby at_362) rfl rfl ?_
         refine XS.bipush X895.here hx rfl (hb hby at_364) ?_
         refine XS.iload X895.here hx rfl (hb hby at_366) rfl ?_
         exact kt)
        obtain ⟨_, _, ⟨T899, L899, k899, n899⟩, -, X899, ⟨Lc899, hQ899, l899, y899, z899⟩, st899⟩ := Jvm.LawKit.callS X895 hx (y := own_y36) hown790 (mvT hZ790 (own_g hw 182 rfl)) (mvT hZ790 (own_g hw 183 rfl)) (mvT hZ790 (own_g hw 184 rfl)) (mvT hZ790 (own_g hw 185 rfl)) (by decide) (backOf (W := 0) (rmEq l Z a0 hw [] sg_790 (6 : Int32) c1 yv_790 ky_790 zl_790 ys_790 zC fv T790.heap n0 f824 f792 f793 f794 f795 f823 hz f828 hfv (by decide) (by rcases hnn with h | h | h | h <;> subst h <;> first | exact absurd hc354_896 (by decide) | exact own_il f797 (by decide) (Nat.le_of_ble_eq_true rfl)) (by rcases hnn with h | h | h | h <;> subst h <;> first | exact absurd hc354_896 (by decide) | exact own_eqc f796 (Nat.le_of_ble_eq_true rfl) (own_bc hc1))) hZ790 (own_g hw 185 rfl) (own_g hw 184 rfl) (by decide) (by decide)) (g := (mkF m 368 #[iv p0, iv p1, iv p2, iv p3, iv p4, rv b1, iv (2 : Int32), iv nn, iv c0, iv c1, iv c2, rv sgx, rv sg_790, iv (0 : Int32), iv (7 : Int32), iv (1 : Int32), .unset, .unset] [(.int c1), (.int (6 : Int32)), (.ref sg_790)])) rfl (by rw [hml]; rfl) (argsL := [(.ref sg_790), (.int (6 : Int32)), (.int c1)]) (rest := []) (lenOf pd__Ljava_lang_String_IC_Z rfl) rfl (by show 2 * 0 + _ ≤ _; exact Nat.le_of_eq rfl) (hb hby at_368) (fun _ _ => ⟨rfl, e895, (by decide : 22 + 0 ≤ _), (by decide : 296 + 0 ≤ _)⟩)
        dsimp only [Pt.U, Pt.locs, Pt.cells, Pt.slots] at X899 l899 y899 z899 st899 hQ899
        subst l899 y899 z899
        obtain ⟨rfl, N899q, e899⟩ := hQ899
        have N899 := Fr.app N895 N899q
        have pre900 : ∀ t, Steps p.tables e below (T899.setTop (mkF m 381 #[iv p0, iv p1, iv p2, iv p3, iv p4, rv b1, iv (2 : Int32), iv nn, iv c0, iv c1, iv c2, rv sgx, rv sg_790, iv (0 : Int32), iv (7 : Int32), iv (1 : Int32), .unset, .unset] [])) t → Steps p.tables e below (s₁.setTop (entryFrame m #[(.int p0), (.int p1), (.int p2), (.int p3), (.int p4)] maxLocals)) t := fun t kt => pre898 t (by
         show Steps _ _ _ (T895.setTop (mkF m 368 #[iv p0, iv p1, iv p2, iv p3, iv p4, rv b1, iv (2 : Int32), iv nn, iv c0, iv c1, iv c2, rv sgx, rv sg_790, iv (0 : Int32), iv (7 : Int32), iv (1 : Int32), .unset, .unset] [(.int c1), (.int (6 : Int32)), (.ref sg_790)])) _
         refine st899 _ ?_
         refine XS.ifNo X899.here hx rfl (hb hby at_371) rfl ((if0 _ _).trans (feq (by decide : ¬ ((1 : Int32) = (0 : Int32)))).1) ?_
         refine XS.iconst X899.here hx rfl (hb hby at_374) ?_
         show Steps _ _ _ (T899.setTop (mkF m 375 #[iv p0, iv p1, iv p2, iv p3, iv p4, rv b1, iv (2 : Int32), iv nn, iv c0, iv c1, iv c2, rv sgx, rv sg_790, iv (0 : Int32), iv (7 : Int32), iv (1 : Int32), .unset, .unset] [(.int (1 : Int32))])) _
         refine XS.goto X899.here hx rfl (pc0 := 375) (pc' := 379) rfl (hb hby at_375) (by decide) (by decide) ?_
         refine XS.istore X899.here hx rfl (hb hby at_379) rfl (l' := #[iv p0, iv p1, iv p2, iv p3, iv p4, rv b1, iv (2 : Int32), iv nn, iv c0, iv c1, iv c2, rv sgx, rv sg_790, iv (0 : Int32), iv (7 : Int32), iv (1 : Int32), .unset, .unset]) rfl ?_
         exact kt)
        have f901 := (f536.keep K790)
        have f902 := (f537.keep K790 nin0)
        have f903 := (f538.keep K790 nin0)
        have f904 := (f539.keep K790 nin0)
        have f905 := (own_staKeep f513 K790 ns0)
        have f906 := (f514.keep K790)
        have f907 := (f515.keep K790 nin0)
        have f908 := (f516.keep K790)
        have f909 := (f517.keep K790 nin0)
        have f910 := (f518.keep K790 nin0)
        have f911 := (f519.keep K790 nin0)
        have f912 := (own_staKeep f520 K790 ns0)
        have f913 := (f521.keep K790)
        have f914 := (f522.keep K790 nin0)
        have f915 := (own_staKeep f523 K790 ns0)
        have f916 := (f524.keep K790)
        have f917 := (f525.keep K790 nin0)
        have f918 := (f526.keep K790)
        have f919 := (f527.keep K790 nin0)
        have f920 := (f528.keep K790 nin0)
        have f921 := (f529.keep K790 nin0)
        have f922 := (own_staKeep f530 K790 ns0)
        have f923 := (f531.keep K790)
        have f924 := (f532.keep K790 nin0)
        have f925 := (f535.keep K790 nin0)
        exact ⟨T899, _, X899.more (by decide) (by decide), N899, e899, pre900⟩
      · have pre926 : ∀ t, Steps p.tables e below (T895.setTop (mkF m 381 #[iv p0, iv p1, iv p2, iv p3, iv p4, rv b1, iv (2 : Int32), iv nn, iv c0, iv c1, iv c2, rv sgx, rv sg_790, iv (0 : Int32), iv (7 : Int32), iv (1 : Int32), .unset, .unset] [])) t → Steps p.tables e below (s₁.setTop (entryFrame m #[(.int p0), (.int p1), (.int p2), (.int p3), (.int p4)] maxLocals)) t := fun t kt => pre897 t (by
         refine XS.icmpYes X895.here hx rfl (pc0 := 354) (pc' := 381) rfl (hb hby at_354) rfl (flt hc354_896).2.2.2 (by decide) (by decide) ?_
         exact kt)
        have f927 := (f536.keep K790)
        have f928 := (f537.keep K790 nin0)
        have f929 := (f538.keep K790 nin0)
        have f930 := (f539.keep K790 nin0)
        have f931 := (own_staKeep f513 K790 ns0)
        have f932 := (f514.keep K790)
        have f933 := (f515.keep K790 nin0)
        have f934 := (f516.keep K790)
        have f935 := (f517.keep K790 nin0)
        have f936 := (f518.keep K790 nin0)
        have f937 := (f519.keep K790 nin0)
        have f938 := (own_staKeep f520 K790 ns0)
        have f939 := (f521.keep K790)
        have f940 := (f522.keep K790 nin0)
        have f941 := (own_staKeep f523 K790 ns0)
        have f942 := (f524.keep K790)
        have f943 := (f525.keep K790 nin0)
        have f944 := (f526.keep K790)
        have f945 := (f527.keep K790 nin0)
        have f946 := (f528.keep K790 nin0)
        have f947 := (f529.keep K790 nin0)
        have f948 := (own_staKeep f530 K790 ns0)
        have f949 := (f531.keep K790)
        have f950 := (f532.keep K790 nin0)
        have f951 := (f535.keep K790 nin0)
        exact ⟨T895, _, X895.more (by decide) (by decide), N895, e895, pre926⟩
    obtain ⟨T952, L952, X952, N952, e952, pre952⟩ := Mg952
    have Mg1009 : ∃ (T1009 : State) (L1009 : List Loc), Stand p l e room_1 (s.setVm T790.vm) m #[(.int p0), (.int p1), (.int p2), (.int p3), (.int p4)] below meth c T1009 L1009 22 296 ∧ Fr n0 L1009 ∧ T1009.heap = T790.heap ∧ (∀ t, Steps p.tables e below (T1009.setTop (mkF m 411 #[iv p0, iv p1, iv p2, iv p3, iv p4, rv b1, iv (2 : Int32), iv nn, iv c0, iv c1, iv c2, rv sgx, rv sg_790, iv (0 : Int32), iv (7 : Int32), iv (1 : Int32), .unset, .unset] [])) t → Steps p.tables e below (s₁.setTop (entryFrame m #[(.int p0), (.int p1), (.int p2), (.int p3), (.int p4)] maxLocals)) t) := by
      have pre954 : ∀ t, Steps p.tables e below (T952.setTop (mkF m 384 #[iv p0, iv p1, iv p2, iv p3, iv p4, rv b1, iv (2 : Int32), iv nn, iv c0, iv c1, iv c2, rv sgx, rv sg_790, iv (0 : Int32), iv (7 : Int32), iv (1 : Int32), .unset, .unset] [(.int (2 : Int32)), (.int nn)])) t → Steps p.tables e below (s₁.setTop (entryFrame m #[(.int p0), (.int p1), (.int p2), (.int p3), (.int p4)] maxLocals)) t := fun t kt => pre952 t (by
       refine XS.iload X952.here hx rfl (hb hby at_381) rfl ?_
       refine XS.iconst X952.here hx rfl (hb hby at_383) ?_
       exact kt)
      by_cases hc384_953 : (2 : Int32) < nn
      · have pre955 : ∀ t, Steps p.tables e below (T952.setTop (mkF m 398 #[iv p0, iv p1, iv p2, iv p3, iv p4, rv b1, iv (2 : Int32), iv nn, iv c0, iv c1, iv c2, rv sgx, rv sg_790, iv (0 : Int32), iv (7 : Int32), iv (1 : Int32), .unset, .unset] [(.int c2), (.int (7 : Int32)), (.ref sg_790)])) t → Steps p.tables e below (s₁.setTop (entryFrame m #[(.int p0), (.int p1), (.int p2), (.int p3), (.int p4)] maxLocals)) t := fun t kt => pre954 t (by
         refine XS.icmpNo X952.here hx rfl (hb hby at_384) rfl (tlt hc384_953).2.2.2 ?_
         refine XS.iload X952.here hx rfl (hb hby at_387) rfl ?_
         refine XS.ifNo X952.here hx rfl (hb hby at_389) rfl ((if0 _ _).trans (feq (by decide : ¬ ((1 : Int32) = (0 : Int32)))).1) ?_
         refine XS.aload X952.here hx rfl (hb hby at_392) rfl rfl ?_
         refine XS.bipush X952.here hx rfl (hb hby at_394) ?_
         refine XS.iload X952.here hx rfl (hb hby at_396) rfl ?_
         exact kt)
        obtain ⟨_, _, ⟨T956, L956, k956, n956⟩, -, X956, ⟨Lc956, hQ956, l956, y956, z956⟩, st956⟩ := Jvm.LawKit.callS X952 hx (y := own_y36) hown790 (mvT hZ790 (own_g hw 182 rfl)) (mvT hZ790 (own_g hw 183 rfl)) (mvT hZ790 (own_g hw 184 rfl)) (mvT hZ790 (own_g hw 185 rfl)) (by decide) (backOf (W := 0) (rmEq l Z a0 hw [] sg_790 (7 : Int32) c2 yv_790 ky_790 zl_790 ys_790 zC fv T790.heap n0 f824 f792 f793 f794 f795 f823 hz f828 hfv (by decide) (by rcases hnn with h | h | h | h <;> subst h <;> first | exact absurd hc384_953 (by decide) | exact own_il f797 (by decide) (Nat.le_of_ble_eq_true rfl)) (by rcases hnn with h | h | h | h <;> subst h <;> first | exact absurd hc384_953 (by decide) | exact own_eqc f796 (Nat.le_of_ble_eq_true rfl) (own_bc hc2))) hZ790 (own_g hw 185 rfl) (own_g hw 184 rfl) (by decide) (by decide)) (g := (mkF m 398 #[iv p0, iv p1, iv p2, iv p3, iv p4, rv b1, iv (2 : Int32), iv nn, iv c0, iv c1, iv c2, rv sgx, rv sg_790, iv (0 : Int32), iv (7 : Int32), iv (1 : Int32), .unset, .unset] [(.int c2), (.int (7 : Int32)), (.ref sg_790)])) rfl (by rw [hml]; rfl) (argsL := [(.ref sg_790), (.int (7 : Int32)), (.int c2)]) (rest := []) (lenOf pd__Ljava_lang_String_IC_Z rfl) rfl (by show 2 * 0 + _ ≤ _; exact Nat.le_of_eq rfl) (hb hby at_398) (fun _ _ => ⟨rfl, e952, (by decide : 22 + 0 ≤ _), (by decide : 296 + 0 ≤ _)⟩)
        dsimp only [Pt.U, Pt.locs, Pt.cells, Pt.slots] at X956 l956 y956 z956 st956 hQ956
        subst l956 y956 z956
        obtain ⟨rfl, N956q, e956⟩ := hQ956
        have N956 := Fr.app N952 N956q
        have pre957 : ∀ t, Steps p.tables e below (T956.setTop (mkF m 411 #[iv p0, iv p1, iv p2, iv p3, iv p4, rv b1, iv (2 : Int32), iv nn, iv c0, iv c1, iv c2, rv sgx, rv sg_790, iv (0 : Int32), iv (7 : Int32), iv (1 : Int32), .unset, .unset] [])) t → Steps p.tables e below (s₁.setTop (entryFrame m #[(.int p0), (.int p1), (.int p2), (.int p3), (.int p4)] maxLocals)) t := fun t kt => pre955 t (by
         show Steps _ _ _ (T952.setTop (mkF m 398 #[iv p0, iv p1, iv p2, iv p3, iv p4, rv b1, iv (2 : Int32), iv nn, iv c0, iv c1, iv c2, rv sgx, rv sg_790, iv (0 : Int32), iv (7 : Int32), iv (1 : Int32), .unset, .unset] [(.int c2), (.int (7 : Int32)), (.ref sg_790)])) _
         refine st956 _ ?_
         refine XS.ifNo X956.here hx rfl (hb hby at_401) rfl ((if0 _ _).trans (feq (by decide : ¬ ((1 : Int32) = (0 : Int32)))).1) ?_
         refine XS.iconst X956.here hx rfl (hb hby at_404) ?_
         refine XS.goto X956.here hx rfl (pc0 := 405) (pc' := 409) rfl (hb hby at_405) (by decide) (by decide) ?_
         refine XS.istore X956.here hx rfl (hb hby at_409) rfl (l' := #[iv p0, iv p1, iv p2, iv p3, iv p4, rv b1, iv (2 : Int32), iv nn, iv c0, iv c1, iv c2, rv sgx, rv sg_790, iv (0 : Int32), iv (7 : Int32), iv (1 : Int32), .unset, .unset]) rfl ?_
         exact kt)
        have f958 := (f536.keep K790)
        have f959 := (f537.keep K790 nin0)
        have f960 := (f538.keep K790 nin0)
        have f961 := (f539.keep K790 nin0)
        have f962 := (own_staKeep f513 K790 ns0)
        have f963 := (f514.keep K790)
        have f964 := (f515.keep K790 nin0)
        have f965 := (f516.keep K790)
        have f966 := (f517.keep K790 nin0)
        have f967 := (f518.keep K790 nin0)
        have f968 := (f519.keep K790 nin0)
        have f969 := (own_staKeep f520 K790 ns0)
        have f970 := (f521.keep K790)
        have f971 := (f522.keep K790 nin0)
        have f972 := (own_staKeep f523 K790 ns0)
        have f973 := (f524.keep K790)
        have f974 := (f525.keep K790 nin0)
        have f975 := (f526.keep K790)
        have f976 := (f527.keep K790 nin0)
        have f977 := (f528.keep K790 nin0)
        have f978 := (f529.keep K790 nin0)
        have f979 := (own_staKeep f530 K790 ns0)
        have f980 := (f531.keep K790)
        have f981 := (f532.keep K790 nin0)
        have f982 := (f535.keep K790 nin0)
        exact ⟨T956, _, X956.more (by decide) (by decide), N956, e956, pre957⟩
      · have pre983 : ∀ t, Steps p.tables e below (T952.setTop (mkF m 411 #[iv p0, iv p1, iv p2, iv p3, iv p4, rv b1, iv (2 : Int32), iv nn, iv c0, iv c1, iv c2, rv sgx, rv sg_790, iv (0 : Int32), iv (7 : Int32), iv (1 : Int32), .unset, .unset] [])) t → Steps p.tables e below (s₁.setTop (entryFrame m #[(.int p0), (.int p1), (.int p2), (.int p3), (.int p4)] maxLocals)) t := fun t kt => pre954 t (by
         refine XS.icmpYes X952.here hx rfl (pc0 := 384) (pc' := 411) rfl (hb hby at_384) rfl (flt hc384_953).2.2.2 (by decide) (by decide) ?_
         exact kt)
        have f984 := (f536.keep K790)
        have f985 := (f537.keep K790 nin0)
        have f986 := (f538.keep K790 nin0)
        have f987 := (f539.keep K790 nin0)
        have f988 := (own_staKeep f513 K790 ns0)
        have f989 := (f514.keep K790)
        have f990 := (f515.keep K790 nin0)
        have f991 := (f516.keep K790)
        have f992 := (f517.keep K790 nin0)
        have f993 := (f518.keep K790 nin0)
        have f994 := (f519.keep K790 nin0)
        have f995 := (own_staKeep f520 K790 ns0)
        have f996 := (f521.keep K790)
        have f997 := (f522.keep K790 nin0)
        have f998 := (own_staKeep f523 K790 ns0)
        have f999 := (f524.keep K790)
        have f1000 := (f525.keep K790 nin0)
        have f1001 := (f526.keep K790)
        have f1002 := (f527.keep K790 nin0)
        have f1003 := (f528.keep K790 nin0)
        have f1004 := (f529.keep K790 nin0)
        have f1005 := (own_staKeep f530 K790 ns0)
        have f1006 := (f531.keep K790)
        have f1007 := (f532.keep K790 nin0)
        have f1008 := (f535.keep K790 nin0)
        exact ⟨T952, _, X952.more (by decide) (by decide), N952, e952, pre983⟩
    obtain ⟨T1009, L1009, X1009, N1009, e1009, pre1009⟩ := Mg1009
    have pre1010 : ∀ t, Steps p.tables e below (T1009.setTop (mkF m 428 #[iv p0, iv p1, iv p2, iv p3, iv p4, rv b1, iv (2 : Int32), iv nn, iv c0, iv c1, iv c2, rv sgx, rv sg_790, iv (0 : Int32), iv (7 : Int32), iv (1 : Int32), iv ((5 : Int32) + nn), .unset] [(.int (32 : Int32)), (.int ((5 : Int32) + nn)), (.ref sg_790)])) t → Steps p.tables e below (s₁.setTop (entryFrame m #[(.int p0), (.int p1), (.int p2), (.int p3), (.int p4)] maxLocals)) t := fun t kt => pre1009 t (by
     refine XS.iconst X1009.here hx rfl (hb hby at_411) ?_
     refine XS.iload X1009.here hx rfl (hb hby at_412) rfl ?_
     refine XS.iadd X1009.here hx rfl (hb hby at_414) rfl ?_
     refine XS.istore X1009.here hx rfl (hb hby at_415) rfl (l' := #[iv p0, iv p1, iv p2, iv p3, iv p4, rv b1, iv (2 : Int32), iv nn, iv c0, iv c1, iv c2, rv sgx, rv sg_790, iv (0 : Int32), iv (7 : Int32), iv (1 : Int32), iv ((5 : Int32) + nn), .unset]) rfl ?_
     refine XS.iload X1009.here hx rfl (hb hby at_417) rfl ?_
     refine XS.ifNo X1009.here hx rfl (hb hby at_419) rfl ((if0 _ _).trans (feq (by decide : ¬ ((1 : Int32) = (0 : Int32)))).1) ?_
     refine XS.aload X1009.here hx rfl (hb hby at_422) rfl rfl ?_
     refine XS.iload X1009.here hx rfl (hb hby at_424) rfl ?_
     show Steps _ _ _ (T1009.setTop (mkF m 426 #[iv p0, iv p1, iv p2, iv p3, iv p4, rv b1, iv (2 : Int32), iv nn, iv c0, iv c1, iv c2, rv sgx, rv sg_790, iv (0 : Int32), iv (7 : Int32), iv (1 : Int32), iv ((5 : Int32) + nn), .unset] [(.int ((5 : Int32) + nn)), (.ref sg_790)])) _
     refine XS.bipush X1009.here hx rfl (hb hby at_426) ?_
     exact kt)
    obtain ⟨_, _, ⟨T1011, L1011, k1011, n1011⟩, -, X1011, ⟨Lc1011, hQ1011, l1011, y1011, z1011⟩, st1011⟩ := Jvm.LawKit.callS X1009 hx (y := own_y36) hown790 (mvT hZ790 (own_g hw 182 rfl)) (mvT hZ790 (own_g hw 183 rfl)) (mvT hZ790 (own_g hw 184 rfl)) (mvT hZ790 (own_g hw 185 rfl)) (by decide) (backOf (W := 0) (rmEq l Z a0 hw [] sg_790 ((5 : Int32) + nn) (32 : Int32) yv_790 ky_790 zl_790 ys_790 zC fv T790.heap n0 f824 f792 f793 f794 f795 f823 hz f828 hfv (by rcases hnn with h | h | h | h <;> subst h <;> decide) (by rcases hnn with h | h | h | h <;> subst h <;> exact own_il f797 (by decide) (Nat.le_of_ble_eq_true rfl)) (by rcases hnn with h | h | h | h <;> subst h <;> exact own_eqc f796 (Nat.le_of_ble_eq_true rfl) (show nar .char (own_ch (32 : Int32)) = (32 : Int32) from by decide))) hZ790 (own_g hw 185 rfl) (own_g hw 184 rfl) (by decide) (by decide)) (g := (mkF m 428 #[iv p0, iv p1, iv p2, iv p3, iv p4, rv b1, iv (2 : Int32), iv nn, iv c0, iv c1, iv c2, rv sgx, rv sg_790, iv (0 : Int32), iv (7 : Int32), iv (1 : Int32), iv ((5 : Int32) + nn), .unset] [(.int (32 : Int32)), (.int ((5 : Int32) + nn)), (.ref sg_790)])) rfl (by rw [hml]; rfl) (argsL := [(.ref sg_790), (.int ((5 : Int32) + nn)), (.int (32 : Int32))]) (rest := []) (lenOf pd__Ljava_lang_String_IC_Z rfl) rfl (by show 2 * 0 + _ ≤ _; exact Nat.le_of_eq rfl) (hb hby at_428) (fun _ _ => ⟨rfl, e1009, (by decide : 22 + 0 ≤ _), (by decide : 296 + 0 ≤ _)⟩)
    dsimp only [Pt.U, Pt.locs, Pt.cells, Pt.slots] at X1011 l1011 y1011 z1011 st1011 hQ1011
    subst l1011 y1011 z1011
    obtain ⟨rfl, N1011q, e1011⟩ := hQ1011
    have N1011 := Fr.app N1009 N1011q
    have pre1012 : ∀ t, Steps p.tables e below (T1011.setTop (mkF m 442 #[iv p0, iv p1, iv p2, iv p3, iv p4, rv b1, iv (2 : Int32), iv nn, iv c0, iv c1, iv c2, rv sgx, rv sg_790, iv (0 : Int32), iv (7 : Int32), iv (1 : Int32), iv ((5 : Int32) + nn), .unset] [(.int (65 : Int32)), (.int (((5 : Int32) + nn) + (1 : Int32))), (.ref sg_790)])) t → Steps p.tables e below (s₁.setTop (entryFrame m #[(.int p0), (.int p1), (.int p2), (.int p3), (.int p4)] maxLocals)) t := fun t kt => pre1010 t (by
     show Steps _ _ _ (T1009.setTop (mkF m 428 #[iv p0, iv p1, iv p2, iv p3, iv p4, rv b1, iv (2 : Int32), iv nn, iv c0, iv c1, iv c2, rv sgx, rv sg_790, iv (0 : Int32), iv (7 : Int32), iv (1 : Int32), iv ((5 : Int32) + nn), .unset] [(.int (32 : Int32)), (.int ((5 : Int32) + nn)), (.ref sg_790)])) _
     refine st1011 _ ?_
     refine XS.ifNo X1011.here hx rfl (hb hby at_431) rfl ((if0 _ _).trans (feq (by decide : ¬ ((1 : Int32) = (0 : Int32)))).1) ?_
     refine XS.aload X1011.here hx rfl (hb hby at_434) rfl rfl ?_
     refine XS.iload X1011.here hx rfl (hb hby at_436) rfl ?_
     refine XS.iconst X1011.here hx rfl (hb hby at_438) ?_
     refine XS.iadd X1011.here hx rfl (hb hby at_439) rfl ?_
     refine XS.bipush X1011.here hx rfl (hb hby at_440) ?_
     exact kt)
    obtain ⟨_, _, ⟨T1013, L1013, k1013, n1013⟩, -, X1013, ⟨Lc1013, hQ1013, l1013, y1013, z1013⟩, st1013⟩ := Jvm.LawKit.callS X1011 hx (y := own_y36) hown790 (mvT hZ790 (own_g hw 182 rfl)) (mvT hZ790 (own_g hw 183 rfl)) (mvT hZ790 (own_g hw 184 rfl)) (mvT hZ790 (own_g hw 185 rfl)) (by decide) (backOf (W := 0) (rmEq l Z a0 hw [] sg_790 (((5 : Int32) + nn) + (1 : Int32)) (65 : Int32) yv_790 ky_790 zl_790 ys_790 zC fv T790.heap n0 f824 f792 f793 f794 f795 f823 hz f828 hfv (by rcases hnn with h | h | h | h <;> subst h <;> decide) (by rcases hnn with h | h | h | h <;> subst h <;> exact own_il f797 (by decide) (Nat.le_of_ble_eq_true rfl)) (by rcases hnn with h | h | h | h <;> subst h <;> exact own_eqc f796 (Nat.le_of_ble_eq_true rfl) (show nar .char (own_ch (65 : Int32)) = (65 : Int32) from by decide))) hZ790 (own_g hw 185 rfl) (own_g hw 184 rfl) (by decide) (by decide)) (g := (mkF m 442 #[iv p0, iv p1, iv p2, iv p3, iv p4, rv b1, iv (2 : Int32), iv nn, iv c0, iv c1, iv c2, rv sgx, rv sg_790, iv (0 : Int32), iv (7 : Int32), iv (1 : Int32), iv ((5 : Int32) + nn), .unset] [(.int (65 : Int32)), (.int (((5 : Int32) + nn) + (1 : Int32))), (.ref sg_790)])) rfl (by rw [hml]; rfl) (argsL := [(.ref sg_790), (.int (((5 : Int32) + nn) + (1 : Int32))), (.int (65 : Int32))]) (rest := []) (lenOf pd__Ljava_lang_String_IC_Z rfl) rfl (by show 2 * 0 + _ ≤ _; exact Nat.le_of_eq rfl) (hb hby at_442) (fun _ _ => ⟨rfl, e1011, (by decide : 22 + 0 ≤ _), (by decide : 296 + 0 ≤ _)⟩)
    dsimp only [Pt.U, Pt.locs, Pt.cells, Pt.slots] at X1013 l1013 y1013 z1013 st1013 hQ1013
    subst l1013 y1013 z1013
    obtain ⟨rfl, N1013q, e1013⟩ := hQ1013
    have N1013 := Fr.app N1011 N1013q
    have pre1014 : ∀ t, Steps p.tables e below (T1013.setTop (mkF m 456 #[iv p0, iv p1, iv p2, iv p3, iv p4, rv b1, iv (2 : Int32), iv nn, iv c0, iv c1, iv c2, rv sgx, rv sg_790, iv (0 : Int32), iv (7 : Int32), iv (1 : Int32), iv ((5 : Int32) + nn), .unset] [(.int (83 : Int32)), (.int (((5 : Int32) + nn) + (2 : Int32))), (.ref sg_790)])) t → Steps p.tables e below (s₁.setTop (entryFrame m #[(.int p0), (.int p1), (.int p2), (.int p3), (.int p4)] maxLocals)) t := fun t kt => pre1012 t (by
     show Steps _ _ _ (T1011.setTop (mkF m 442 #[iv p0, iv p1, iv p2, iv p3, iv p4, rv b1, iv (2 : Int32), iv nn, iv c0, iv c1, iv c2, rv sgx, rv sg_790, iv (0 : Int32), iv (7 : Int32), iv (1 : Int32), iv ((5 : Int32) + nn), .unset] [(.int (65 : Int32)), (.int (((5 : Int32) + nn) + (1 : Int32))), (.ref sg_790)])) _
     refine st1013 _ ?_
     refine XS.ifNo X1013.here hx rfl (hb hby at_445) rfl ((if0 _ _).trans (feq (by decide : ¬ ((1 : Int32) = (0 : Int32)))).1) ?_
     refine XS.aload X1013.here hx rfl (hb hby at_448) rfl rfl ?_
     refine XS.iload X1013.here hx rfl (hb hby at_450) rfl ?_
     refine XS.iconst X1013.here hx rfl (hb hby at_452) ?_
     refine XS.iadd X1013.here hx rfl (hb hby at_453) rfl ?_
     refine XS.bipush X1013.here hx rfl (hb hby at_454) ?_
     exact kt)
    obtain ⟨_, _, ⟨T1015, L1015, k1015, n1015⟩, -, X1015, ⟨Lc1015, hQ1015, l1015, y1015, z1015⟩, st1015⟩ := Jvm.LawKit.callS X1013 hx (y := own_y36) hown790 (mvT hZ790 (own_g hw 182 rfl)) (mvT hZ790 (own_g hw 183 rfl)) (mvT hZ790 (own_g hw 184 rfl)) (mvT hZ790 (own_g hw 185 rfl)) (by decide) (backOf (W := 0) (rmEq l Z a0 hw [] sg_790 (((5 : Int32) + nn) + (2 : Int32)) (83 : Int32) yv_790 ky_790 zl_790 ys_790 zC fv T790.heap n0 f824 f792 f793 f794 f795 f823 hz f828 hfv (by rcases hnn with h | h | h | h <;> subst h <;> decide) (by rcases hnn with h | h | h | h <;> subst h <;> exact own_il f797 (by decide) (Nat.le_of_ble_eq_true rfl)) (by rcases hnn with h | h | h | h <;> subst h <;> exact own_eqc f796 (Nat.le_of_ble_eq_true rfl) (show nar .char (own_ch (83 : Int32)) = (83 : Int32) from by decide))) hZ790 (own_g hw 185 rfl) (own_g hw 184 rfl) (by decide) (by decide)) (g := (mkF m 456 #[iv p0, iv p1, iv p2, iv p3, iv p4, rv b1, iv (2 : Int32), iv nn, iv c0, iv c1, iv c2, rv sgx, rv sg_790, iv (0 : Int32), iv (7 : Int32), iv (1 : Int32), iv ((5 : Int32) + nn), .unset] [(.int (83 : Int32)), (.int (((5 : Int32) + nn) + (2 : Int32))), (.ref sg_790)])) rfl (by rw [hml]; rfl) (argsL := [(.ref sg_790), (.int (((5 : Int32) + nn) + (2 : Int32))), (.int (83 : Int32))]) (rest := []) (lenOf pd__Ljava_lang_String_IC_Z rfl) rfl (by show 2 * 0 + _ ≤ _; exact Nat.le_of_eq rfl) (hb hby at_456) (fun _ _ => ⟨rfl, e1013, (by decide : 22 + 0 ≤ _), (by decide : 296 + 0 ≤ _)⟩)
    dsimp only [Pt.U, Pt.locs, Pt.cells, Pt.slots] at X1015 l1015 y1015 z1015 st1015 hQ1015
    subst l1015 y1015 z1015
    obtain ⟨rfl, N1015q, e1015⟩ := hQ1015
    have N1015 := Fr.app N1013 N1015q
    have pre1016 : ∀ t, Steps p.tables e below (T1015.setTop (mkF m 470 #[iv p0, iv p1, iv p2, iv p3, iv p4, rv b1, iv (2 : Int32), iv nn, iv c0, iv c1, iv c2, rv sgx, rv sg_790, iv (0 : Int32), iv (7 : Int32), iv (1 : Int32), iv ((5 : Int32) + nn), .unset] [(.int (32 : Int32)), (.int (((5 : Int32) + nn) + (3 : Int32))), (.ref sg_790)])) t → Steps p.tables e below (s₁.setTop (entryFrame m #[(.int p0), (.int p1), (.int p2), (.int p3), (.int p4)] maxLocals)) t := fun t kt => pre1014 t (by
     show Steps _ _ _ (T1013.setTop (mkF m 456 #[iv p0, iv p1, iv p2, iv p3, iv p4, rv b1, iv (2 : Int32), iv nn, iv c0, iv c1, iv c2, rv sgx, rv sg_790, iv (0 : Int32), iv (7 : Int32), iv (1 : Int32), iv ((5 : Int32) + nn), .unset] [(.int (83 : Int32)), (.int (((5 : Int32) + nn) + (2 : Int32))), (.ref sg_790)])) _
     refine st1015 _ ?_
     refine XS.ifNo X1015.here hx rfl (hb hby at_459) rfl ((if0 _ _).trans (feq (by decide : ¬ ((1 : Int32) = (0 : Int32)))).1) ?_
     refine XS.aload X1015.here hx rfl (hb hby at_462) rfl rfl ?_
     refine XS.iload X1015.here hx rfl (hb hby at_464) rfl ?_
     refine XS.iconst X1015.here hx rfl (hb hby at_466) ?_
     refine XS.iadd X1015.here hx rfl (hb hby at_467) rfl ?_
     refine XS.bipush X1015.here hx rfl (hb hby at_468) ?_
     exact kt)
    obtain ⟨_, _, ⟨T1017, L1017, k1017, n1017⟩, -, X1017, ⟨Lc1017, hQ1017, l1017, y1017, z1017⟩, st1017⟩ := Jvm.LawKit.callS X1015 hx (y := own_y36) hown790 (mvT hZ790 (own_g hw 182 rfl)) (mvT hZ790 (own_g hw 183 rfl)) (mvT hZ790 (own_g hw 184 rfl)) (mvT hZ790 (own_g hw 185 rfl)) (by decide) (backOf (W := 0) (rmEq l Z a0 hw [] sg_790 (((5 : Int32) + nn) + (3 : Int32)) (32 : Int32) yv_790 ky_790 zl_790 ys_790 zC fv T790.heap n0 f824 f792 f793 f794 f795 f823 hz f828 hfv (by rcases hnn with h | h | h | h <;> subst h <;> decide) (by rcases hnn with h | h | h | h <;> subst h <;> exact own_il f797 (by decide) (Nat.le_of_ble_eq_true rfl)) (by rcases hnn with h | h | h | h <;> subst h <;> exact own_eqc f796 (Nat.le_of_ble_eq_true rfl) (show nar .char (own_ch (32 : Int32)) = (32 : Int32) from by decide))) hZ790 (own_g hw 185 rfl) (own_g hw 184 rfl) (by decide) (by decide)) (g := (mkF m 470 #[iv p0, iv p1, iv p2, iv p3, iv p4, rv b1, iv (2 : Int32), iv nn, iv c0, iv c1, iv c2, rv sgx, rv sg_790, iv (0 : Int32), iv (7 : Int32), iv (1 : Int32), iv ((5 : Int32) + nn), .unset] [(.int (32 : Int32)), (.int (((5 : Int32) + nn) + (3 : Int32))), (.ref sg_790)])) rfl (by rw [hml]; rfl) (argsL := [(.ref sg_790), (.int (((5 : Int32) + nn) + (3 : Int32))), (.int (32 : Int32))]) (rest := []) (lenOf pd__Ljava_lang_String_IC_Z rfl) rfl (by show 2 * 0 + _ ≤ _; exact Nat.le_of_eq rfl) (hb hby at_470) (fun _ _ => ⟨rfl, e1015, (by decide : 22 + 0 ≤ _), (by decide : 296 + 0 ≤ _)⟩)
    dsimp only [Pt.U, Pt.locs, Pt.cells, Pt.slots] at X1017 l1017 y1017 z1017 st1017 hQ1017
    subst l1017 y1017 z1017
    obtain ⟨rfl, N1017q, e1017⟩ := hQ1017
    have N1017 := Fr.app N1015 N1017q
    have pre1018 : ∀ t, Steps p.tables e below (T1017.setTop (mkF m 574 #[iv p0, iv p1, iv p2, iv p3, iv p4, rv b1, iv (2 : Int32), iv nn, iv c0, iv c1, iv c2, rv sgx, rv sg_790, iv (0 : Int32), iv (7 : Int32), iv (1 : Int32), iv ((5 : Int32) + nn), iv (((5 : Int32) + nn) + (4 : Int32))] [(.int (86 : Int32)), (.int (((5 : Int32) + nn) + (4 : Int32))), (.ref sg_790)])) t → Steps p.tables e below (s₁.setTop (entryFrame m #[(.int p0), (.int p1), (.int p2), (.int p3), (.int p4)] maxLocals)) t := fun t kt => pre1016 t (by
     show Steps _ _ _ (T1015.setTop (mkF m 470 #[iv p0, iv p1, iv p2, iv p3, iv p4, rv b1, iv (2 : Int32), iv nn, iv c0, iv c1, iv c2, rv sgx, rv sg_790, iv (0 : Int32), iv (7 : Int32), iv (1 : Int32), iv ((5 : Int32) + nn), .unset] [(.int (32 : Int32)), (.int (((5 : Int32) + nn) + (3 : Int32))), (.ref sg_790)])) _
     refine st1017 _ ?_
     refine XS.ifNo X1017.here hx rfl (hb hby at_473) rfl ((if0 _ _).trans (feq (by decide : ¬ ((1 : Int32) = (0 : Int32)))).1) ?_
     refine XS.iconst X1017.here hx rfl (hb hby at_476) ?_
     refine XS.goto X1017.here hx rfl (pc0 := 477) (pc' := 481) rfl (hb hby at_477) (by decide) (by decide) ?_
     refine XS.istore X1017.here hx rfl (hb hby at_481) rfl (l' := #[iv p0, iv p1, iv p2, iv p3, iv p4, rv b1, iv (2 : Int32), iv nn, iv c0, iv c1, iv c2, rv sgx, rv sg_790, iv (0 : Int32), iv (7 : Int32), iv (1 : Int32), iv ((5 : Int32) + nn), .unset]) rfl ?_
     refine XS.iload X1017.here hx rfl (hb hby at_483) rfl ?_
     show Steps _ _ _ (T1017.setTop (mkF m 485 #[iv p0, iv p1, iv p2, iv p3, iv p4, rv b1, iv (2 : Int32), iv nn, iv c0, iv c1, iv c2, rv sgx, rv sg_790, iv (0 : Int32), iv (7 : Int32), iv (1 : Int32), iv ((5 : Int32) + nn), .unset] [(.int ((5 : Int32) + nn))])) _
     refine XS.iconst X1017.here hx rfl (hb hby at_485) ?_
     refine XS.iadd X1017.here hx rfl (hb hby at_486) rfl ?_
     refine XS.istore X1017.here hx rfl (hb hby at_487) rfl (l' := #[iv p0, iv p1, iv p2, iv p3, iv p4, rv b1, iv (2 : Int32), iv nn, iv c0, iv c1, iv c2, rv sgx, rv sg_790, iv (0 : Int32), iv (7 : Int32), iv (1 : Int32), iv ((5 : Int32) + nn), iv (((5 : Int32) + nn) + (4 : Int32))]) rfl ?_
     refine XS.iload X1017.here hx rfl (hb hby at_489) rfl ?_
     refine XS.ifYes X1017.here hx rfl (pc0 := 491) (pc' := 563) rfl (hb hby at_491) rfl ((if0 _ _).trans (teq (by decide : (0 : Int32) = (0 : Int32))).1) (by decide) (by decide) ?_
     refine XS.iload X1017.here hx rfl (hb hby at_563) rfl ?_
     refine XS.ifNo X1017.here hx rfl (hb hby at_565) rfl ((if0 _ _).trans (feq (by decide : ¬ ((1 : Int32) = (0 : Int32)))).1) ?_
     refine XS.aload X1017.here hx rfl (hb hby at_568) rfl rfl ?_
     refine XS.iload X1017.here hx rfl (hb hby at_570) rfl ?_
     refine XS.bipush X1017.here hx rfl (hb hby at_572) ?_
     exact kt)
    obtain ⟨_, _, ⟨T1019, L1019, k1019, n1019⟩, -, X1019, ⟨Lc1019, hQ1019, l1019, y1019, z1019⟩, st1019⟩ := Jvm.LawKit.callS X1017 hx (y := own_y36) hown790 (mvT hZ790 (own_g hw 182 rfl)) (mvT hZ790 (own_g hw 183 rfl)) (mvT hZ790 (own_g hw 184 rfl)) (mvT hZ790 (own_g hw 185 rfl)) (by decide) (backOf (W := 0) (rmEq l Z a0 hw [] sg_790 (((5 : Int32) + nn) + (4 : Int32)) (86 : Int32) yv_790 ky_790 zl_790 ys_790 zC fv T790.heap n0 f824 f792 f793 f794 f795 f823 hz f828 hfv (by rcases hnn with h | h | h | h <;> subst h <;> decide) (by rcases hnn with h | h | h | h <;> subst h <;> exact own_il f797 (by decide) (Nat.le_of_ble_eq_true rfl)) (by rcases hnn with h | h | h | h <;> subst h <;> exact own_eqc f796 (Nat.le_of_ble_eq_true rfl) (show nar .char (own_ch (86 : Int32)) = (86 : Int32) from by decide))) hZ790 (own_g hw 185 rfl) (own_g hw 184 rfl) (by decide) (by decide)) (g := (mkF m 574 #[iv p0, iv p1, iv p2, iv p3, iv p4, rv b1, iv (2 : Int32), iv nn, iv c0, iv c1, iv c2, rv sgx, rv sg_790, iv (0 : Int32), iv (7 : Int32), iv (1 : Int32), iv ((5 : Int32) + nn), iv (((5 : Int32) + nn) + (4 : Int32))] [(.int (86 : Int32)), (.int (((5 : Int32) + nn) + (4 : Int32))), (.ref sg_790)])) rfl (by rw [hml]; rfl) (argsL := [(.ref sg_790), (.int (((5 : Int32) + nn) + (4 : Int32))), (.int (86 : Int32))]) (rest := []) (lenOf pd__Ljava_lang_String_IC_Z rfl) rfl (by show 2 * 0 + _ ≤ _; exact Nat.le_of_eq rfl) (hb hby at_574) (fun _ _ => ⟨rfl, e1017, (by decide : 22 + 0 ≤ _), (by decide : 296 + 0 ≤ _)⟩)
    dsimp only [Pt.U, Pt.locs, Pt.cells, Pt.slots] at X1019 l1019 y1019 z1019 st1019 hQ1019
    subst l1019 y1019 z1019
    obtain ⟨rfl, N1019q, e1019⟩ := hQ1019
    have N1019 := Fr.app N1017 N1019q
    have pre1020 : ∀ t, Steps p.tables e below (T1019.setTop (mkF m 588 #[iv p0, iv p1, iv p2, iv p3, iv p4, rv b1, iv (2 : Int32), iv nn, iv c0, iv c1, iv c2, rv sgx, rv sg_790, iv (0 : Int32), iv (7 : Int32), iv (1 : Int32), iv ((5 : Int32) + nn), iv (((5 : Int32) + nn) + (4 : Int32))] [(.int (65 : Int32)), (.int ((((5 : Int32) + nn) + (4 : Int32)) + (1 : Int32))), (.ref sg_790)])) t → Steps p.tables e below (s₁.setTop (entryFrame m #[(.int p0), (.int p1), (.int p2), (.int p3), (.int p4)] maxLocals)) t := fun t kt => pre1018 t (by
     show Steps _ _ _ (T1017.setTop (mkF m 574 #[iv p0, iv p1, iv p2, iv p3, iv p4, rv b1, iv (2 : Int32), iv nn, iv c0, iv c1, iv c2, rv sgx, rv sg_790, iv (0 : Int32), iv (7 : Int32), iv (1 : Int32), iv ((5 : Int32) + nn), iv (((5 : Int32) + nn) + (4 : Int32))] [(.int (86 : Int32)), (.int (((5 : Int32) + nn) + (4 : Int32))), (.ref sg_790)])) _
     refine st1019 _ ?_
     refine XS.ifNo X1019.here hx rfl (hb hby at_577) rfl ((if0 _ _).trans (feq (by decide : ¬ ((1 : Int32) = (0 : Int32)))).1) ?_
     refine XS.aload X1019.here hx rfl (hb hby at_580) rfl rfl ?_
     refine XS.iload X1019.here hx rfl (hb hby at_582) rfl ?_
     refine XS.iconst X1019.here hx rfl (hb hby at_584) ?_
     refine XS.iadd X1019.here hx rfl (hb hby at_585) rfl ?_
     refine XS.bipush X1019.here hx rfl (hb hby at_586) ?_
     exact kt)
    obtain ⟨_, _, ⟨T1021, L1021, k1021, n1021⟩, -, X1021, ⟨Lc1021, hQ1021, l1021, y1021, z1021⟩, st1021⟩ := Jvm.LawKit.callS X1019 hx (y := own_y36) hown790 (mvT hZ790 (own_g hw 182 rfl)) (mvT hZ790 (own_g hw 183 rfl)) (mvT hZ790 (own_g hw 184 rfl)) (mvT hZ790 (own_g hw 185 rfl)) (by decide) (backOf (W := 0) (rmEq l Z a0 hw [] sg_790 ((((5 : Int32) + nn) + (4 : Int32)) + (1 : Int32)) (65 : Int32) yv_790 ky_790 zl_790 ys_790 zC fv T790.heap n0 f824 f792 f793 f794 f795 f823 hz f828 hfv (by rcases hnn with h | h | h | h <;> subst h <;> decide) (by rcases hnn with h | h | h | h <;> subst h <;> exact own_il f797 (by decide) (Nat.le_of_ble_eq_true rfl)) (by rcases hnn with h | h | h | h <;> subst h <;> exact own_eqc f796 (Nat.le_of_ble_eq_true rfl) (show nar .char (own_ch (65 : Int32)) = (65 : Int32) from by decide))) hZ790 (own_g hw 185 rfl) (own_g hw 184 rfl) (by decide) (by decide)) (g := (mkF m 588 #[iv p0, iv p1, iv p2, iv p3, iv p4, rv b1, iv (2 : Int32), iv nn, iv c0, iv c1, iv c2, rv sgx, rv sg_790, iv (0 : Int32), iv (7 : Int32), iv (1 : Int32), iv ((5 : Int32) + nn), iv (((5 : Int32) + nn) + (4 : Int32))] [(.int (65 : Int32)), (.int ((((5 : Int32) + nn) + (4 : Int32)) + (1 : Int32))), (.ref sg_790)])) rfl (by rw [hml]; rfl) (argsL := [(.ref sg_790), (.int ((((5 : Int32) + nn) + (4 : Int32)) + (1 : Int32))), (.int (65 : Int32))]) (rest := []) (lenOf pd__Ljava_lang_String_IC_Z rfl) rfl (by show 2 * 0 + _ ≤ _; exact Nat.le_of_eq rfl) (hb hby at_588) (fun _ _ => ⟨rfl, e1019, (by decide : 22 + 0 ≤ _), (by decide : 296 + 0 ≤ _)⟩)
    dsimp only [Pt.U, Pt.locs, Pt.cells, Pt.slots] at X1021 l1021 y1021 z1021 st1021 hQ1021
    subst l1021 y1021 z1021
    obtain ⟨rfl, N1021q, e1021⟩ := hQ1021
    have N1021 := Fr.app N1019 N1021q
    have pre1022 : ∀ t, Steps p.tables e below (T1021.setTop (mkF m 602 #[iv p0, iv p1, iv p2, iv p3, iv p4, rv b1, iv (2 : Int32), iv nn, iv c0, iv c1, iv c2, rv sgx, rv sg_790, iv (0 : Int32), iv (7 : Int32), iv (1 : Int32), iv ((5 : Int32) + nn), iv (((5 : Int32) + nn) + (4 : Int32))] [(.int (82 : Int32)), (.int ((((5 : Int32) + nn) + (4 : Int32)) + (2 : Int32))), (.ref sg_790)])) t → Steps p.tables e below (s₁.setTop (entryFrame m #[(.int p0), (.int p1), (.int p2), (.int p3), (.int p4)] maxLocals)) t := fun t kt => pre1020 t (by
     show Steps _ _ _ (T1019.setTop (mkF m 588 #[iv p0, iv p1, iv p2, iv p3, iv p4, rv b1, iv (2 : Int32), iv nn, iv c0, iv c1, iv c2, rv sgx, rv sg_790, iv (0 : Int32), iv (7 : Int32), iv (1 : Int32), iv ((5 : Int32) + nn), iv (((5 : Int32) + nn) + (4 : Int32))] [(.int (65 : Int32)), (.int ((((5 : Int32) + nn) + (4 : Int32)) + (1 : Int32))), (.ref sg_790)])) _
     refine st1021 _ ?_
     refine XS.ifNo X1021.here hx rfl (hb hby at_591) rfl ((if0 _ _).trans (feq (by decide : ¬ ((1 : Int32) = (0 : Int32)))).1) ?_
     refine XS.aload X1021.here hx rfl (hb hby at_594) rfl rfl ?_
     refine XS.iload X1021.here hx rfl (hb hby at_596) rfl ?_
     refine XS.iconst X1021.here hx rfl (hb hby at_598) ?_
     refine XS.iadd X1021.here hx rfl (hb hby at_599) rfl ?_
     refine XS.bipush X1021.here hx rfl (hb hby at_600) ?_
     exact kt)
    obtain ⟨_, _, ⟨T1023, L1023, k1023, n1023⟩, -, X1023, ⟨Lc1023, hQ1023, l1023, y1023, z1023⟩, st1023⟩ := Jvm.LawKit.callS X1021 hx (y := own_y36) hown790 (mvT hZ790 (own_g hw 182 rfl)) (mvT hZ790 (own_g hw 183 rfl)) (mvT hZ790 (own_g hw 184 rfl)) (mvT hZ790 (own_g hw 185 rfl)) (by decide) (backOf (W := 0) (rmEq l Z a0 hw [] sg_790 ((((5 : Int32) + nn) + (4 : Int32)) + (2 : Int32)) (82 : Int32) yv_790 ky_790 zl_790 ys_790 zC fv T790.heap n0 f824 f792 f793 f794 f795 f823 hz f828 hfv (by rcases hnn with h | h | h | h <;> subst h <;> decide) (by rcases hnn with h | h | h | h <;> subst h <;> exact own_il f797 (by decide) (Nat.le_of_ble_eq_true rfl)) (by rcases hnn with h | h | h | h <;> subst h <;> exact own_eqc f796 (Nat.le_of_ble_eq_true rfl) (show nar .char (own_ch (82 : Int32)) = (82 : Int32) from by decide))) hZ790 (own_g hw 185 rfl) (own_g hw 184 rfl) (by decide) (by decide)) (g := (mkF m 602 #[iv p0, iv p1, iv p2, iv p3, iv p4, rv b1, iv (2 : Int32), iv nn, iv c0, iv c1, iv c2, rv sgx, rv sg_790, iv (0 : Int32), iv (7 : Int32), iv (1 : Int32), iv ((5 : Int32) + nn), iv (((5 : Int32) + nn) + (4 : Int32))] [(.int (82 : Int32)), (.int ((((5 : Int32) + nn) + (4 : Int32)) + (2 : Int32))), (.ref sg_790)])) rfl (by rw [hml]; rfl) (argsL := [(.ref sg_790), (.int ((((5 : Int32) + nn) + (4 : Int32)) + (2 : Int32))), (.int (82 : Int32))]) (rest := []) (lenOf pd__Ljava_lang_String_IC_Z rfl) rfl (by show 2 * 0 + _ ≤ _; exact Nat.le_of_eq rfl) (hb hby at_602) (fun _ _ => ⟨rfl, e1021, (by decide : 22 + 0 ≤ _), (by decide : 296 + 0 ≤ _)⟩)
    dsimp only [Pt.U, Pt.locs, Pt.cells, Pt.slots] at X1023 l1023 y1023 z1023 st1023 hQ1023
    subst l1023 y1023 z1023
    obtain ⟨rfl, N1023q, e1023⟩ := hQ1023
    have N1023 := Fr.app N1021 N1023q
    have pre1024 : ∀ t, Steps p.tables e below (T1023.setTop (mkF m 616 #[iv p0, iv p1, iv p2, iv p3, iv p4, rv b1, iv (2 : Int32), iv nn, iv c0, iv c1, iv c2, rv sgx, rv sg_790, iv (0 : Int32), iv (7 : Int32), iv (1 : Int32), iv ((5 : Int32) + nn), iv (((5 : Int32) + nn) + (4 : Int32))] [(.int (67 : Int32)), (.int ((((5 : Int32) + nn) + (4 : Int32)) + (3 : Int32))), (.ref sg_790)])) t → Steps p.tables e below (s₁.setTop (entryFrame m #[(.int p0), (.int p1), (.int p2), (.int p3), (.int p4)] maxLocals)) t := fun t kt => pre1022 t (by
     show Steps _ _ _ (T1021.setTop (mkF m 602 #[iv p0, iv p1, iv p2, iv p3, iv p4, rv b1, iv (2 : Int32), iv nn, iv c0, iv c1, iv c2, rv sgx, rv sg_790, iv (0 : Int32), iv (7 : Int32), iv (1 : Int32), iv ((5 : Int32) + nn), iv (((5 : Int32) + nn) + (4 : Int32))] [(.int (82 : Int32)), (.int ((((5 : Int32) + nn) + (4 : Int32)) + (2 : Int32))), (.ref sg_790)])) _
     refine st1023 _ ?_
     refine XS.ifNo X1023.here hx rfl (hb hby at_605) rfl ((if0 _ _).trans (feq (by decide : ¬ ((1 : Int32) = (0 : Int32)))).1) ?_
     refine XS.aload X1023.here hx rfl (hb hby at_608) rfl rfl ?_
     show Steps _ _ _ (T1023.setTop (mkF m 610 #[iv p0, iv p1, iv p2, iv p3, iv p4, rv b1, iv (2 : Int32), iv nn, iv c0, iv c1, iv c2, rv sgx, rv sg_790, iv (0 : Int32), iv (7 : Int32), iv (1 : Int32), iv ((5 : Int32) + nn), iv (((5 : Int32) + nn) + (4 : Int32))] [(.ref sg_790)])) _
     refine XS.iload X1023.here hx rfl (hb hby at_610) rfl ?_
     refine XS.iconst X1023.here hx rfl (hb hby at_612) ?_
     refine XS.iadd X1023.here hx rfl (hb hby at_613) rfl ?_
     refine XS.bipush X1023.here hx rfl (hb hby at_614) ?_
     exact kt)
    obtain ⟨_, _, ⟨T1025, L1025, k1025, n1025⟩, -, X1025, ⟨Lc1025, hQ1025, l1025, y1025, z1025⟩, st1025⟩ := Jvm.LawKit.callS X1023 hx (y := own_y36) hown790 (mvT hZ790 (own_g hw 182 rfl)) (mvT hZ790 (own_g hw 183 rfl)) (mvT hZ790 (own_g hw 184 rfl)) (mvT hZ790 (own_g hw 185 rfl)) (by decide) (backOf (W := 0) (rmEq l Z a0 hw [] sg_790 ((((5 : Int32) + nn) + (4 : Int32)) + (3 : Int32)) (67 : Int32) yv_790 ky_790 zl_790 ys_790 zC fv T790.heap n0 f824 f792 f793 f794 f795 f823 hz f828 hfv (by rcases hnn with h | h | h | h <;> subst h <;> decide) (by rcases hnn with h | h | h | h <;> subst h <;> exact own_il f797 (by decide) (Nat.le_of_ble_eq_true rfl)) (by rcases hnn with h | h | h | h <;> subst h <;> exact own_eqc f796 (Nat.le_of_ble_eq_true rfl) (show nar .char (own_ch (67 : Int32)) = (67 : Int32) from by decide))) hZ790 (own_g hw 185 rfl) (own_g hw 184 rfl) (by decide) (by decide)) (g := (mkF m 616 #[iv p0, iv p1, iv p2, iv p3, iv p4, rv b1, iv (2 : Int32), iv nn, iv c0, iv c1, iv c2, rv sgx, rv sg_790, iv (0 : Int32), iv (7 : Int32), iv (1 : Int32), iv ((5 : Int32) + nn), iv (((5 : Int32) + nn) + (4 : Int32))] [(.int (67 : Int32)), (.int ((((5 : Int32) + nn) + (4 : Int32)) + (3 : Int32))), (.ref sg_790)])) rfl (by rw [hml]; rfl) (argsL := [(.ref sg_790), (.int ((((5 : Int32) + nn) + (4 : Int32)) + (3 : Int32))), (.int (67 : Int32))]) (rest := []) (lenOf pd__Ljava_lang_String_IC_Z rfl) rfl (by show 2 * 0 + _ ≤ _; exact Nat.le_of_eq rfl) (hb hby at_616) (fun _ _ => ⟨rfl, e1023, (by decide : 22 + 0 ≤ _), (by decide : 296 + 0 ≤ _)⟩)
    dsimp only [Pt.U, Pt.locs, Pt.cells, Pt.slots] at X1025 l1025 y1025 z1025 st1025 hQ1025
    subst l1025 y1025 z1025
    obtain ⟨rfl, N1025q, e1025⟩ := hQ1025
    have N1025 := Fr.app N1023 N1025q
    have pre1026 : ∀ t, Steps p.tables e below (T1025.setTop (mkF m 630 #[iv p0, iv p1, iv p2, iv p3, iv p4, rv b1, iv (2 : Int32), iv nn, iv c0, iv c1, iv c2, rv sgx, rv sg_790, iv (0 : Int32), iv (7 : Int32), iv (1 : Int32), iv ((5 : Int32) + nn), iv (((5 : Int32) + nn) + (4 : Int32))] [(.int (72 : Int32)), (.int ((((5 : Int32) + nn) + (4 : Int32)) + (4 : Int32))), (.ref sg_790)])) t → Steps p.tables e below (s₁.setTop (entryFrame m #[(.int p0), (.int p1), (.int p2), (.int p3), (.int p4)] maxLocals)) t := fun t kt => pre1024 t (by
     show Steps _ _ _ (T1023.setTop (mkF m 616 #[iv p0, iv p1, iv p2, iv p3, iv p4, rv b1, iv (2 : Int32), iv nn, iv c0, iv c1, iv c2, rv sgx, rv sg_790, iv (0 : Int32), iv (7 : Int32), iv (1 : Int32), iv ((5 : Int32) + nn), iv (((5 : Int32) + nn) + (4 : Int32))] [(.int (67 : Int32)), (.int ((((5 : Int32) + nn) + (4 : Int32)) + (3 : Int32))), (.ref sg_790)])) _
     refine st1025 _ ?_
     refine XS.ifNo X1025.here hx rfl (hb hby at_619) rfl ((if0 _ _).trans (feq (by decide : ¬ ((1 : Int32) = (0 : Int32)))).1) ?_
     refine XS.aload X1025.here hx rfl (hb hby at_622) rfl rfl ?_
     refine XS.iload X1025.here hx rfl (hb hby at_624) rfl ?_
     refine XS.iconst X1025.here hx rfl (hb hby at_626) ?_
     refine XS.iadd X1025.here hx rfl (hb hby at_627) rfl ?_
     refine XS.bipush X1025.here hx rfl (hb hby at_628) ?_
     exact kt)
    obtain ⟨_, _, ⟨T1027, L1027, k1027, n1027⟩, -, X1027, ⟨Lc1027, hQ1027, l1027, y1027, z1027⟩, st1027⟩ := Jvm.LawKit.callS X1025 hx (y := own_y36) hown790 (mvT hZ790 (own_g hw 182 rfl)) (mvT hZ790 (own_g hw 183 rfl)) (mvT hZ790 (own_g hw 184 rfl)) (mvT hZ790 (own_g hw 185 rfl)) (by decide) (backOf (W := 0) (rmEq l Z a0 hw [] sg_790 ((((5 : Int32) + nn) + (4 : Int32)) + (4 : Int32)) (72 : Int32) yv_790 ky_790 zl_790 ys_790 zC fv T790.heap n0 f824 f792 f793 f794 f795 f823 hz f828 hfv (by rcases hnn with h | h | h | h <;> subst h <;> decide) (by rcases hnn with h | h | h | h <;> subst h <;> exact own_il f797 (by decide) (Nat.le_of_ble_eq_true rfl)) (by rcases hnn with h | h | h | h <;> subst h <;> exact own_eqc f796 (Nat.le_of_ble_eq_true rfl) (show nar .char (own_ch (72 : Int32)) = (72 : Int32) from by decide))) hZ790 (own_g hw 185 rfl) (own_g hw 184 rfl) (by decide) (by decide)) (g := (mkF m 630 #[iv p0, iv p1, iv p2, iv p3, iv p4, rv b1, iv (2 : Int32), iv nn, iv c0, iv c1, iv c2, rv sgx, rv sg_790, iv (0 : Int32), iv (7 : Int32), iv (1 : Int32), iv ((5 : Int32) + nn), iv (((5 : Int32) + nn) + (4 : Int32))] [(.int (72 : Int32)), (.int ((((5 : Int32) + nn) + (4 : Int32)) + (4 : Int32))), (.ref sg_790)])) rfl (by rw [hml]; rfl) (argsL := [(.ref sg_790), (.int ((((5 : Int32) + nn) + (4 : Int32)) + (4 : Int32))), (.int (72 : Int32))]) (rest := []) (lenOf pd__Ljava_lang_String_IC_Z rfl) rfl (by show 2 * 0 + _ ≤ _; exact Nat.le_of_eq rfl) (hb hby at_630) (fun _ _ => ⟨rfl, e1025, (by decide : 22 + 0 ≤ _), (by decide : 296 + 0 ≤ _)⟩)
    dsimp only [Pt.U, Pt.locs, Pt.cells, Pt.slots] at X1027 l1027 y1027 z1027 st1027 hQ1027
    subst l1027 y1027 z1027
    obtain ⟨rfl, N1027q, e1027⟩ := hQ1027
    have N1027 := Fr.app N1025 N1027q
    have pre1028 : ∀ t, Steps p.tables e below (T1027.setTop (mkF m 644 #[iv p0, iv p1, iv p2, iv p3, iv p4, rv b1, iv (2 : Int32), iv nn, iv c0, iv c1, iv c2, rv sgx, rv sg_790, iv (0 : Int32), iv (7 : Int32), iv (1 : Int32), iv ((5 : Int32) + nn), iv (((5 : Int32) + nn) + (4 : Int32))] [(.int (65 : Int32)), (.int ((((5 : Int32) + nn) + (4 : Int32)) + (5 : Int32))), (.ref sg_790)])) t → Steps p.tables e below (s₁.setTop (entryFrame m #[(.int p0), (.int p1), (.int p2), (.int p3), (.int p4)] maxLocals)) t := fun t kt => pre1026 t (by
     show Steps _ _ _ (T1025.setTop (mkF m 630 #[iv p0, iv p1, iv p2, iv p3, iv p4, rv b1, iv (2 : Int32), iv nn, iv c0, iv c1, iv c2, rv sgx, rv sg_790, iv (0 : Int32), iv (7 : Int32), iv (1 : Int32), iv ((5 : Int32) + nn), iv (((5 : Int32) + nn) + (4 : Int32))] [(.int (72 : Int32)), (.int ((((5 : Int32) + nn) + (4 : Int32)) + (4 : Int32))), (.ref sg_790)])) _
     refine st1027 _ ?_
     refine XS.ifNo X1027.here hx rfl (hb hby at_633) rfl ((if0 _ _).trans (feq (by decide : ¬ ((1 : Int32) = (0 : Int32)))).1) ?_
     refine XS.aload X1027.here hx rfl (hb hby at_636) rfl rfl ?_
     refine XS.iload X1027.here hx rfl (hb hby at_638) rfl ?_
     refine XS.iconst X1027.here hx rfl (hb hby at_640) ?_
     refine XS.iadd X1027.here hx rfl (hb hby at_641) rfl ?_
     refine XS.bipush X1027.here hx rfl (hb hby at_642) ?_
     exact kt)
    obtain ⟨_, _, ⟨T1029, L1029, k1029, n1029⟩, -, X1029, ⟨Lc1029, hQ1029, l1029, y1029, z1029⟩, st1029⟩ := Jvm.LawKit.callS X1027 hx (y := own_y36) hown790 (mvT hZ790 (own_g hw 182 rfl)) (mvT hZ790 (own_g hw 183 rfl)) (mvT hZ790 (own_g hw 184 rfl)) (mvT hZ790 (own_g hw 185 rfl)) (by decide) (backOf (W := 0) (rmEq l Z a0 hw [] sg_790 ((((5 : Int32) + nn) + (4 : Int32)) + (5 : Int32)) (65 : Int32) yv_790 ky_790 zl_790 ys_790 zC fv T790.heap n0 f824 f792 f793 f794 f795 f823 hz f828 hfv (by rcases hnn with h | h | h | h <;> subst h <;> decide) (by rcases hnn with h | h | h | h <;> subst h <;> exact own_il f797 (by decide) (Nat.le_of_ble_eq_true rfl)) (by rcases hnn with h | h | h | h <;> subst h <;> exact own_eqc f796 (Nat.le_of_ble_eq_true rfl) (show nar .char (own_ch (65 : Int32)) = (65 : Int32) from by decide))) hZ790 (own_g hw 185 rfl) (own_g hw 184 rfl) (by decide) (by decide)) (g := (mkF m 644 #[iv p0, iv p1, iv p2, iv p3, iv p4, rv b1, iv (2 : Int32), iv nn, iv c0, iv c1, iv c2, rv sgx, rv sg_790, iv (0 : Int32), iv (7 : Int32), iv (1 : Int32), iv ((5 : Int32) + nn), iv (((5 : Int32) + nn) + (4 : Int32))] [(.int (65 : Int32)), (.int ((((5 : Int32) + nn) + (4 : Int32)) + (5 : Int32))), (.ref sg_790)])) rfl (by rw [hml]; rfl) (argsL := [(.ref sg_790), (.int ((((5 : Int32) + nn) + (4 : Int32)) + (5 : Int32))), (.int (65 : Int32))]) (rest := []) (lenOf pd__Ljava_lang_String_IC_Z rfl) rfl (by show 2 * 0 + _ ≤ _; exact Nat.le_of_eq rfl) (hb hby at_644) (fun _ _ => ⟨rfl, e1027, (by decide : 22 + 0 ≤ _), (by decide : 296 + 0 ≤ _)⟩)
    dsimp only [Pt.U, Pt.locs, Pt.cells, Pt.slots] at X1029 l1029 y1029 z1029 st1029 hQ1029
    subst l1029 y1029 z1029
    obtain ⟨rfl, N1029q, e1029⟩ := hQ1029
    have N1029 := Fr.app N1027 N1029q
    have pre1030 : ∀ t, Steps p.tables e below (T1029.setTop (mkF m 659 #[iv p0, iv p1, iv p2, iv p3, iv p4, rv b1, iv (2 : Int32), iv nn, iv c0, iv c1, iv c2, rv sgx, rv sg_790, iv (0 : Int32), iv (7 : Int32), iv (1 : Int32), iv ((5 : Int32) + nn), iv (((5 : Int32) + nn) + (4 : Int32))] [(.int (82 : Int32)), (.int ((((5 : Int32) + nn) + (4 : Int32)) + (6 : Int32))), (.ref sg_790)])) t → Steps p.tables e below (s₁.setTop (entryFrame m #[(.int p0), (.int p1), (.int p2), (.int p3), (.int p4)] maxLocals)) t := fun t kt => pre1028 t (by
     show Steps _ _ _ (T1027.setTop (mkF m 644 #[iv p0, iv p1, iv p2, iv p3, iv p4, rv b1, iv (2 : Int32), iv nn, iv c0, iv c1, iv c2, rv sgx, rv sg_790, iv (0 : Int32), iv (7 : Int32), iv (1 : Int32), iv ((5 : Int32) + nn), iv (((5 : Int32) + nn) + (4 : Int32))] [(.int (65 : Int32)), (.int ((((5 : Int32) + nn) + (4 : Int32)) + (5 : Int32))), (.ref sg_790)])) _
     refine st1029 _ ?_
     refine XS.ifNo X1029.here hx rfl (hb hby at_647) rfl ((if0 _ _).trans (feq (by decide : ¬ ((1 : Int32) = (0 : Int32)))).1) ?_
     refine XS.aload X1029.here hx rfl (hb hby at_650) rfl rfl ?_
     refine XS.iload X1029.here hx rfl (hb hby at_652) rfl ?_
     refine XS.bipush X1029.here hx rfl (hb hby at_654) ?_
     refine XS.iadd X1029.here hx rfl (hb hby at_656) rfl ?_
     refine XS.bipush X1029.here hx rfl (hb hby at_657) ?_
     exact kt)
    obtain ⟨_, _, ⟨T1031, L1031, k1031, n1031⟩, -, X1031, ⟨Lc1031, hQ1031, l1031, y1031, z1031⟩, st1031⟩ := Jvm.LawKit.callS X1029 hx (y := own_y36) hown790 (mvT hZ790 (own_g hw 182 rfl)) (mvT hZ790 (own_g hw 183 rfl)) (mvT hZ790 (own_g hw 184 rfl)) (mvT hZ790 (own_g hw 185 rfl)) (by decide) (backOf (W := 0) (rmEq l Z a0 hw [] sg_790 ((((5 : Int32) + nn) + (4 : Int32)) + (6 : Int32)) (82 : Int32) yv_790 ky_790 zl_790 ys_790 zC fv T790.heap n0 f824 f792 f793 f794 f795 f823 hz f828 hfv (by rcases hnn with h | h | h | h <;> subst h <;> decide) (by rcases hnn with h | h | h | h <;> subst h <;> exact own_il f797 (by decide) (Nat.le_of_ble_eq_true rfl)) (by rcases hnn with h | h | h | h <;> subst h <;> exact own_eqc f796 (Nat.le_of_ble_eq_true rfl) (show nar .char (own_ch (82 : Int32)) = (82 : Int32) from by decide))) hZ790 (own_g hw 185 rfl) (own_g hw 184 rfl) (by decide) (by decide)) (g := (mkF m 659 #[iv p0, iv p1, iv p2, iv p3, iv p4, rv b1, iv (2 : Int32), iv nn, iv c0, iv c1, iv c2, rv sgx, rv sg_790, iv (0 : Int32), iv (7 : Int32), iv (1 : Int32), iv ((5 : Int32) + nn), iv (((5 : Int32) + nn) + (4 : Int32))] [(.int (82 : Int32)), (.int ((((5 : Int32) + nn) + (4 : Int32)) + (6 : Int32))), (.ref sg_790)])) rfl (by rw [hml]; rfl) (argsL := [(.ref sg_790), (.int ((((5 : Int32) + nn) + (4 : Int32)) + (6 : Int32))), (.int (82 : Int32))]) (rest := []) (lenOf pd__Ljava_lang_String_IC_Z rfl) rfl (by show 2 * 0 + _ ≤ _; exact Nat.le_of_eq rfl) (hb hby at_659) (fun _ _ => ⟨rfl, e1029, (by decide : 22 + 0 ≤ _), (by decide : 296 + 0 ≤ _)⟩)
    dsimp only [Pt.U, Pt.locs, Pt.cells, Pt.slots] at X1031 l1031 y1031 z1031 st1031 hQ1031
    subst l1031 y1031 z1031
    obtain ⟨rfl, N1031q, e1031⟩ := hQ1031
    have N1031 := Fr.app N1029 N1031q
    have pre1032 : ∀ t, Steps p.tables e below (T1031.setTop (mkF m 686 #[iv p0, iv p1, iv p2, iv p3, iv p4, rv b1, iv (2 : Int32), iv nn, iv c0, iv c1, iv c2, rv sgx, rv sg_790, iv (0 : Int32), iv (7 : Int32), iv (1 : Int32), iv ((5 : Int32) + nn), iv (((5 : Int32) + nn) + (4 : Int32))] [(.int (41 : Int32)), (.int ((((5 : Int32) + nn) + (4 : Int32)) + (7 : Int32))), (.ref sg_790)])) t → Steps p.tables e below (s₁.setTop (entryFrame m #[(.int p0), (.int p1), (.int p2), (.int p3), (.int p4)] maxLocals)) t := fun t kt => pre1030 t (by
     show Steps _ _ _ (T1029.setTop (mkF m 659 #[iv p0, iv p1, iv p2, iv p3, iv p4, rv b1, iv (2 : Int32), iv nn, iv c0, iv c1, iv c2, rv sgx, rv sg_790, iv (0 : Int32), iv (7 : Int32), iv (1 : Int32), iv ((5 : Int32) + nn), iv (((5 : Int32) + nn) + (4 : Int32))] [(.int (82 : Int32)), (.int ((((5 : Int32) + nn) + (4 : Int32)) + (6 : Int32))), (.ref sg_790)])) _
     refine st1031 _ ?_
     refine XS.ifNo X1031.here hx rfl (hb hby at_662) rfl ((if0 _ _).trans (feq (by decide : ¬ ((1 : Int32) = (0 : Int32)))).1) ?_
     refine XS.iconst X1031.here hx rfl (hb hby at_665) ?_
     show Steps _ _ _ (T1031.setTop (mkF m 666 #[iv p0, iv p1, iv p2, iv p3, iv p4, rv b1, iv (2 : Int32), iv nn, iv c0, iv c1, iv c2, rv sgx, rv sg_790, iv (0 : Int32), iv (7 : Int32), iv (1 : Int32), iv ((5 : Int32) + nn), iv (((5 : Int32) + nn) + (4 : Int32))] [(.int (1 : Int32))])) _
     refine XS.goto X1031.here hx rfl (pc0 := 666) (pc' := 670) rfl (hb hby at_666) (by decide) (by decide) ?_
     refine XS.istore X1031.here hx rfl (hb hby at_670) rfl (l' := #[iv p0, iv p1, iv p2, iv p3, iv p4, rv b1, iv (2 : Int32), iv nn, iv c0, iv c1, iv c2, rv sgx, rv sg_790, iv (0 : Int32), iv (7 : Int32), iv (1 : Int32), iv ((5 : Int32) + nn), iv (((5 : Int32) + nn) + (4 : Int32))]) rfl ?_
     refine XS.iload X1031.here hx rfl (hb hby at_672) rfl ?_
     refine XS.ifNo X1031.here hx rfl (hb hby at_674) rfl ((if0 _ _).trans (feq (by decide : ¬ ((1 : Int32) = (0 : Int32)))).1) ?_
     refine XS.aload X1031.here hx rfl (hb hby at_677) rfl rfl ?_
     refine XS.iload X1031.here hx rfl (hb hby at_679) rfl ?_
     refine XS.iload X1031.here hx rfl (hb hby at_681) rfl ?_
     refine XS.iadd X1031.here hx rfl (hb hby at_683) rfl ?_
     refine XS.bipush X1031.here hx rfl (hb hby at_684) ?_
     exact kt)
    obtain ⟨_, _, ⟨T1033, L1033, k1033, n1033⟩, -, X1033, ⟨Lc1033, hQ1033, l1033, y1033, z1033⟩, st1033⟩ := Jvm.LawKit.callS X1031 hx (y := own_y36) hown790 (mvT hZ790 (own_g hw 182 rfl)) (mvT hZ790 (own_g hw 183 rfl)) (mvT hZ790 (own_g hw 184 rfl)) (mvT hZ790 (own_g hw 185 rfl)) (by decide) (backOf (W := 0) (rmEq l Z a0 hw [] sg_790 ((((5 : Int32) + nn) + (4 : Int32)) + (7 : Int32)) (41 : Int32) yv_790 ky_790 zl_790 ys_790 zC fv T790.heap n0 f824 f792 f793 f794 f795 f823 hz f828 hfv (by rcases hnn with h | h | h | h <;> subst h <;> decide) (by rcases hnn with h | h | h | h <;> subst h <;> exact own_il f797 (by decide) (Nat.le_of_ble_eq_true rfl)) (by rcases hnn with h | h | h | h <;> subst h <;> exact own_eqc f796 (Nat.le_of_ble_eq_true rfl) (show nar .char (own_ch (41 : Int32)) = (41 : Int32) from by decide))) hZ790 (own_g hw 185 rfl) (own_g hw 184 rfl) (by decide) (by decide)) (g := (mkF m 686 #[iv p0, iv p1, iv p2, iv p3, iv p4, rv b1, iv (2 : Int32), iv nn, iv c0, iv c1, iv c2, rv sgx, rv sg_790, iv (0 : Int32), iv (7 : Int32), iv (1 : Int32), iv ((5 : Int32) + nn), iv (((5 : Int32) + nn) + (4 : Int32))] [(.int (41 : Int32)), (.int ((((5 : Int32) + nn) + (4 : Int32)) + (7 : Int32))), (.ref sg_790)])) rfl (by rw [hml]; rfl) (argsL := [(.ref sg_790), (.int ((((5 : Int32) + nn) + (4 : Int32)) + (7 : Int32))), (.int (41 : Int32))]) (rest := []) (lenOf pd__Ljava_lang_String_IC_Z rfl) rfl (by show 2 * 0 + _ ≤ _; exact Nat.le_of_eq rfl) (hb hby at_686) (fun _ _ => ⟨rfl, e1031, (by decide : 22 + 0 ≤ _), (by decide : 296 + 0 ≤ _)⟩)
    dsimp only [Pt.U, Pt.locs, Pt.cells, Pt.slots] at X1033 l1033 y1033 z1033 st1033 hQ1033
    subst l1033 y1033 z1033
    obtain ⟨rfl, N1033q, e1033⟩ := hQ1033
    have N1033 := Fr.app N1031 N1033q
    obtain ⟨fs, hr, hrun, hended, hW, hsame⟩ := X1033.leave (v := some (.int (1 : Int32))) (fun h => by rw [Bd.returns] at h; cases h)
    have qE := hS790.ended (c := room_1.cells) (k := room_1.slots) hW (show _ ≤ T1033.heap.size from (by rw [e1033]; exact (Nat.le_refl _))) (hsame.mono (by decide) (by decide))
    refine ⟨_, _, pre1032 _ ?_, hrun, hended, _, _, rfl, ?_, ⟨_, rfl⟩, qE.1, qE.2.1, qE.2.2⟩
    · show Steps _ _ _ (T1031.setTop (mkF m 686 #[iv p0, iv p1, iv p2, iv p3, iv p4, rv b1, iv (2 : Int32), iv nn, iv c0, iv c1, iv c2, rv sgx, rv sg_790, iv (0 : Int32), iv (7 : Int32), iv (1 : Int32), iv ((5 : Int32) + nn), iv (((5 : Int32) + nn) + (4 : Int32))] [(.int (41 : Int32)), (.int ((((5 : Int32) + nn) + (4 : Int32)) + (7 : Int32))), (.ref sg_790)])) _
      refine st1033 _ ?_
      refine XS.ifNo X1033.here hx rfl (hb hby at_689) rfl ((if0 _ _).trans (feq (by decide : ¬ ((1 : Int32) = (0 : Int32)))).1) ?_
      refine XS.iconst X1033.here hx rfl (hb hby at_692) ?_
      refine XS.goto X1033.here hx rfl (pc0 := 693) (pc' := 697) rfl (hb hby at_693) (by decide) (by decide) ?_
      refine XS.istore X1033.here hx rfl (hb hby at_697) rfl (l' := #[iv p0, iv p1, iv p2, iv p3, iv p4, rv b1, iv (2 : Int32), iv nn, iv c0, iv c1, iv c2, rv sgx, rv sg_790, iv (0 : Int32), iv (7 : Int32), iv (1 : Int32), iv ((5 : Int32) + nn), iv (((5 : Int32) + nn) + (4 : Int32))]) rfl ?_
      refine XS.iload X1033.here hx rfl (hb hby at_699) rfl ?_
      show Steps _ _ _ (T1033.setTop (mkF m 701 #[iv p0, iv p1, iv p2, iv p3, iv p4, rv b1, iv (2 : Int32), iv nn, iv c0, iv c1, iv c2, rv sgx, rv sg_790, iv (0 : Int32), iv (7 : Int32), iv (1 : Int32), iv ((5 : Int32) + nn), iv (((5 : Int32) + nn) + (4 : Int32))] [(.int (1 : Int32))])) _
      exact retN X1033 hx (t := .boolean) Bd.returns (by simp) (hb hby at_701) hr
    · show own_Q0 n0 _ T1033.heap _
      rw [e1033]
      exact ⟨rfl, N1033⟩
  · rw [hi] at pre540
    obtain ⟨cl1034, Ar1034, qq1034, S1034, N1034_, H1034, G1034⟩ := id f535
    have hin1034 : ¬ ((3 : Int32) < 0 ∨ cl1034.slots.size ≤ ((3 : Int32)).toNatClampNeg) := inb_of S1034 ⟨by decide, by decide⟩
    have hat1034 : cl1034.slots[((3 : Int32)).toNatClampNeg]? = some (.ref wQ) := H1034.at hin1034 rfl
    have pre1035 : ∀ t, Steps p.tables e below (T509.setTop (mkF m 176 #[iv p0, iv p1, iv p2, iv p3, iv p4, rv b1, iv (3 : Int32), iv nn, iv c0, iv c1, iv c2, rv sgx, .unset, .unset, .unset, .unset, .unset, .unset] [(.ref sgx), (.ref wQ)])) t → Steps p.tables e below (s₁.setTop (entryFrame m #[(.int p0), (.int p1), (.int p2), (.int p3), (.int p4)] maxLocals)) t := fun t kt => pre540 t (by
     refine X509.aaload hx (j := (3 : Int32)) (v := (.ref wQ)) Ar1034.1 (State.isArrayOf_alike hZ509.alike Ar1034.2.1) rfl Ar1034.2.2 hin1034 hat1034 (g := (mkF m 173 #[iv p0, iv p1, iv p2, iv p3, iv p4, rv b1, iv (3 : Int32), iv nn, iv c0, iv c1, iv c2, rv sgx, .unset, .unset, .unset, .unset, .unset, .unset] [(.int (3 : Int32)), (.ref b1)])) rfl rfl (hb hby at_173) _ ?_
     refine XS.aload X509.here hx rfl (hb hby at_174) rfl rfl ?_
     exact kt)
    obtain ⟨cq1037, kq1037, q1037a, q1037b, q1037c⟩ := isOf hZ509 rfl f531
    obtain ⟨_, _, ⟨T1036, L1036, k1036, n1036⟩, -, X1036, ⟨Lc1036, hQ1036, l1036, y1036, z1036⟩, st1036⟩ := X509.virtualBack hx (y := own_y35) (z := own_y35) hown509 (mvT hZ509 (own_g hw 42 rfl)) (mvT hZ509 (own_g hw 43 rfl)) (notFace_of_selects (args := #[]) (mvT hZ509 (own_g hw 45 rfl))) (mvT hZ509 (own_g hw 45 rfl)) (mvT hZ509 (own_g hw 44 rfl)) (by decide) (backOf (W := 0) (rmT0 l Z a0 hw [] wQ sgx T509.heap n0 f510 f531 f532) hZ509 (own_g hw 46 rfl) (own_g hw 3 rfl) (by decide) (by decide)) q1037a q1037c (g := (mkF m 176 #[iv p0, iv p1, iv p2, iv p3, iv p4, rv b1, iv (3 : Int32), iv nn, iv c0, iv c1, iv c2, rv sgx, .unset, .unset, .unset, .unset, .unset, .unset] [(.ref sgx), (.ref wQ)])) rfl (by rw [hml]; rfl) (Steps.refl _) (argsL := [(.ref sgx)]) (rest := []) (lenOf pd__Ljava_lang_String__Ljava_lang_String_ rfl) rfl (by show 2 * 0 + _ ≤ _; exact Nat.le_of_eq rfl) (hb hby at_176) (fun _ _ => ⟨rfl, rfl, (by decide : 7 + 0 ≤ _), (by decide : 16 + 0 ≤ _)⟩)
    dsimp only [Pt.U, Pt.locs, Pt.cells, Pt.slots] at X1036 l1036 y1036 z1036 st1036 hQ1036
    subst l1036 y1036 z1036
    obtain ⟨rfl, N1036q, e1036⟩ := hQ1036
    have N1036 := Fr.app N509 N1036q
    have pre1038 : ∀ t, Steps p.tables e below (T1036.setTop (mkF m 204 #[iv p0, iv p1, iv p2, iv p3, iv p4, rv b1, iv (3 : Int32), iv nn, iv c0, iv c1, iv c2, rv sgx, rv sgx, .unset, .unset, .unset, .unset, .unset] [(.ref sgx), (.ref sgx)])) t → Steps p.tables e below (s₁.setTop (entryFrame m #[(.int p0), (.int p1), (.int p2), (.int p3), (.int p4)] maxLocals)) t := fun t kt => pre1035 t (by
     show Steps _ _ _ (T509.setTop (mkF m 176 #[iv p0, iv p1, iv p2, iv p3, iv p4, rv b1, iv (3 : Int32), iv nn, iv c0, iv c1, iv c2, rv sgx, .unset, .unset, .unset, .unset, .unset, .unset] [(.ref sgx), (.ref wQ)])) _
     refine st1036.trans ?_
     refine XS.astore X1036.here hx rfl (hb hby at_179) rfl rfl (l' := #[iv p0, iv p1, iv p2, iv p3, iv p4, rv b1, iv (3 : Int32), iv nn, iv c0, iv c1, iv c2, rv sgx, rv sgx, .unset, .unset, .unset, .unset, .unset]) rfl ?_
     refine XS.aload X1036.here hx rfl (hb hby at_181) rfl rfl ?_
     refine XS.ifnonnullYes X1036.here hx rfl (pc0 := 183) (pc' := 188) rfl (hb hby at_183) rfl (by decide) (by decide) ?_
     refine XS.iload X1036.here hx rfl (hb hby at_188) rfl ?_
     refine XS.iconst X1036.here hx rfl (hb hby at_190) ?_
     refine XS.icmpNo X1036.here hx rfl (hb hby at_191) rfl (feq (by decide : ¬ ((3 : Int32) = (1 : Int32)))).1 ?_
     refine XS.iload X1036.here hx rfl (hb hby at_194) rfl ?_
     refine XS.iconst X1036.here hx rfl (hb hby at_196) ?_
     show Steps _ _ _ (T1036.setTop (mkF m 197 #[iv p0, iv p1, iv p2, iv p3, iv p4, rv b1, iv (3 : Int32), iv nn, iv c0, iv c1, iv c2, rv sgx, rv sgx, .unset, .unset, .unset, .unset, .unset] [(.int (3 : Int32)), (.int (3 : Int32))])) _
     refine XS.icmpNo X1036.here hx rfl (hb hby at_197) rfl (teq (by decide : (3 : Int32) = (3 : Int32))).2 ?_
     refine XS.aload X1036.here hx rfl (hb hby at_200) rfl rfl ?_
     refine XS.aload X1036.here hx rfl (hb hby at_202) rfl rfl ?_
     exact kt)
    obtain ⟨cq1040, kq1040, q1040a, q1040b, q1040c⟩ := isOf hZ509 e1036 f536
    obtain ⟨_, _, ⟨T1039, L1039, k1039, n1039⟩, -, X1039, ⟨Lc1039, hQ1039, l1039, y1039, z1039⟩, st1039⟩ := X1036.virtualBack hx (y := own_y37) (z := own_y37) hown509 (mvT hZ509 (own_g hw 209 rfl)) (mvT hZ509 (own_g hw 210 rfl)) (notFace_of_selects (args := #[]) (mvT hZ509 (own_g hw 212 rfl))) (mvT hZ509 (own_g hw 212 rfl)) (mvT hZ509 (own_g hw 211 rfl)) (by decide) (backOf (W := 0) (rmEs l Z a0 hw [] sgx T509.heap n0 f510 f536) hZ509 (own_g hw 213 rfl) (own_g hw 14 rfl) (by decide) (by decide)) q1040a q1040c (g := (mkF m 204 #[iv p0, iv p1, iv p2, iv p3, iv p4, rv b1, iv (3 : Int32), iv nn, iv c0, iv c1, iv c2, rv sgx, rv sgx, .unset, .unset, .unset, .unset, .unset] [(.ref sgx), (.ref sgx)])) rfl (by rw [hml]; rfl) (Steps.refl _) (argsL := [(.ref sgx)]) (rest := []) (lenOf pd__Ljava_lang_Object__Z rfl) rfl (by show 2 * 0 + _ ≤ _; exact Nat.le_of_eq rfl) (hb hby at_204) (fun _ _ => ⟨rfl, e1036, (by decide : 7 + 0 ≤ _), (by decide : 16 + 0 ≤ _)⟩)
    dsimp only [Pt.U, Pt.locs, Pt.cells, Pt.slots] at X1039 l1039 y1039 z1039 st1039 hQ1039
    subst l1039 y1039 z1039
    obtain ⟨rfl, N1039q, e1039⟩ := hQ1039
    have N1039 := Fr.app N1036 N1039q
    obtain ⟨fs, hr, hrun, hended, hW, hsame⟩ := X1039.leave (v := some (.int (1 : Int32))) (fun h => by rw [Bd.returns] at h; cases h)
    have qE := hS509.ended (c := room_1.cells) (k := room_1.slots) hW (show _ ≤ T1039.heap.size from (by rw [e1039]; exact f533)) (hsame.mono (by decide) (by decide))
    refine ⟨_, _, pre1038 _ ?_, hrun, hended, _, _, rfl, ?_, ⟨_, rfl⟩, qE.1, qE.2.1, qE.2.2⟩
    · show Steps _ _ _ (T1036.setTop (mkF m 204 #[iv p0, iv p1, iv p2, iv p3, iv p4, rv b1, iv (3 : Int32), iv nn, iv c0, iv c1, iv c2, rv sgx, rv sgx, .unset, .unset, .unset, .unset, .unset] [(.ref sgx), (.ref sgx)])) _
      refine st1039.trans ?_
      show Steps _ _ _ (T1039.setTop (mkF m 207 #[iv p0, iv p1, iv p2, iv p3, iv p4, rv b1, iv (3 : Int32), iv nn, iv c0, iv c1, iv c2, rv sgx, rv sgx, .unset, .unset, .unset, .unset, .unset] [(.int (1 : Int32))])) _
      exact retN X1039 hx (t := .boolean) Bd.returns (by simp) (hb hby at_207) hr
    · show own_Q0 n0 _ T1039.heap _
      rw [e1039]
      exact ⟨rfl, N1039⟩

set_option maxRecDepth 65536 in
set_option maxHeartbeats 40000000 in
theorem comes_1 {Post : Tables → Env → Array Value → State → Outcome → State → Prop} (hpost : ∀ tb e args s v u, (limb_1_1.after args s (.returned v) u = true ∧ limb_1_2.after args s (.returned v) u = true ∧ True) → ReturnedEndW s (.returned v) u (Jvm.fieldLocs frame_1_writes args s ++ Jvm.arrayLocs frame_1_arrays args s ++ Jvm.staticLocs frame_1_statics s) 40 4416 → Post tb e args s (.returned v) u) :
    ArmFor flags0 classFile x code maxLocals ret World_1 tables_1 room_1 Calls_1 rest_1 Pre_1 Post := by
  intro l hfl _ _ p e ha hc hk s m args below hf hA hF happ hP
  obtain ⟨hcalls, hrest, hpre⟩ := hP
  obtain ⟨-, -, -, hnamed, -, -, -, hat⟩ := (Spec.applies_iff hf).mp happ
  obtain ⟨hg, hn⟩ := and_e (Cond.before_iff.mp (show (Jvm.Cond.and given_1 narrow_1).before args s = true from hpre))
  obtain ⟨g0, gr1⟩ := and_e hg
  obtain ⟨g1, gr2⟩ := and_e gr1
  obtain ⟨g2, gr3⟩ := and_e gr2
  obtain ⟨g3, gr4⟩ := and_e gr3
  obtain ⟨g4, g5⟩ := and_e gr4
  obtain ⟨k0, kr1⟩ := and_e hn
  obtain ⟨k1, kr2⟩ := and_e kr1
  obtain ⟨k2, kr3⟩ := and_e kr2
  obtain ⟨k3, kr4⟩ := and_e kr3
  obtain ⟨k4, kr5⟩ := and_e kr4
  obtain ⟨k5, kr6⟩ := and_e kr5
  obtain ⟨k6, kr7⟩ := and_e kr6
  obtain ⟨k7, kr8⟩ := and_e kr7
  obtain ⟨k8, kr9⟩ := and_e kr8
  obtain ⟨k9, kr10⟩ := and_e kr9
  obtain ⟨k10, kr11⟩ := and_e kr10
  obtain ⟨k11, kr12⟩ := and_e kr11
  obtain ⟨k12, kr13⟩ := and_e kr12
  obtain ⟨k13, kr14⟩ := and_e kr13
  obtain ⟨k14, kr15⟩ := and_e kr14
  obtain ⟨k15, kr16⟩ := and_e kr15
  obtain ⟨k16, kr17⟩ := and_e kr16
  obtain ⟨k17, kr18⟩ := and_e kr17
  obtain ⟨k18, kr19⟩ := and_e kr18
  obtain ⟨k19, kr20⟩ := and_e kr19
  obtain ⟨k20, kr21⟩ := and_e kr20
  obtain ⟨k21, kr22⟩ := and_e kr21
  obtain ⟨k22, kr23⟩ := and_e kr22
  obtain ⟨k23, kr24⟩ := and_e kr23
  obtain ⟨k24, kr25⟩ := and_e kr24
  obtain ⟨k25, k26⟩ := and_e kr25
  obtain ⟨w0, w1, w2, w3, w4, rfl⟩ : ∃ w0 w1 w2 w3 w4 : Value, args = #[w0, w1, w2, w3, w4] := by
    have hs : args.size = 5 := by simpa [Cond.value, given_1] using g0
    obtain ⟨L⟩ := args
    match L, hs with
    | [w0, w1, w2, w3, w4], _ => exact ⟨w0, w1, w2, w3, w4, rfl⟩
  have hw := fun d (hd : d ∈ tables_1) => atoms_spec (ws := Jvm.Cond.code x code maxLocals ret :: tables_1) hat d (List.mem_cons_of_mem _ hd)
  have hfit : Fit s := fun {y c} hc i hi => by
    obtain ⟨ha, rfl⟩ := Array.getElem?_eq_some_iff.mp hc
    have q := List.all_eq_true.mp ((Array.all_eq_true_iff_forall_mem.mp hF) _ (Array.getElem_mem ha)) i (List.mem_range.mpr hi)
    simpa [Array.getElem?_eq_getElem hi] using q
  obtain ⟨hsets, hown0⟩ := atoms_of _ (rest_1_c_eq ▸ (show rest_1_c.before _ s = true from hrest))
  have hr0 := Cond.before_iff.mp hown0
  obtain ⟨i0, ei0⟩ := is_v g1
  obtain rfl : w0 = (.int i0) := Option.some.inj ei0
  obtain ⟨i1, ei1⟩ := is_v g2
  obtain rfl : w1 = (.int i1) := Option.some.inj ei1
  obtain ⟨i2, ei2⟩ := is_v g3
  obtain rfl : w2 = (.int i2) := Option.some.inj ei2
  obtain ⟨i3, ei3⟩ := is_v g4
  obtain rfl : w3 = (.int i3) := Option.some.inj ei3
  obtain ⟨i4, ei4⟩ := is_v g5
  obtain rfl : w4 = (.int i4) := Option.some.inj ei4
  obtain ⟨zC, eC⟩ := is_v (Cond.before_iff.mp (hsets _ (List.mem_of_getElem? (i := 1) rfl)))
  have SC : Sta s s.heap "java/lang/String" "COMPACT_STRINGS" "Z" (.int zC) := Sta.start eC (Or.inl (hsets _ (List.mem_of_getElem? (i := 0) rfl)))
  have hz : ¬ (zC = (0 : Int32)) := gotF (Cond.eq_ints eC (Term.int_eval _)) (not_v (Cond.before_iff.mp (hsets _ (List.mem_of_getElem? (i := 2) rfl))))
  obtain ⟨fv, eF, hf_⟩ := isR_v (Cond.before_iff.mp (hsets _ (List.mem_of_getElem? (i := 8) rfl)))
  have hfv := ref_cases hf_
  obtain ⟨wP, e_wP⟩ := exa_v k0
  obtain ⟨tywP, e_tywP⟩ := exa_v k4
  obtain ⟨twwP, e_twwP⟩ := arr_v k5
  obtain ⟨clwP, AwP⟩ := Arr.start e_twwP k5
  obtain ⟨z1wP, z2wP⟩ := own_len' (own_eqI k7) e_twwP AwP
  obtain ⟨wM, e_wM⟩ := exa_v k1
  obtain ⟨wH, e_wH⟩ := exa_v k2
  obtain ⟨tywH, e_tywH⟩ := exa_v k14
  obtain ⟨twwH, e_twwH⟩ := arr_v k15
  obtain ⟨clwH, AwH⟩ := Arr.start e_twwH k15
  obtain ⟨z1wH, z2wH⟩ := own_len' (own_eqI k17) e_twwH AwH
  obtain ⟨wQ, e_wQ⟩ := exa_v k3
  obtain ⟨n, o, h1, h2, h3, _, L, rfl, ⟨rfl, N⟩, hq⟩ := rm0 l s _ hw tables_1 i0 i1 i2 i3 i4 zC fv wP wM wH wQ tywP twwP clwP.cls tywH twwH clwH.cls s.heap s.heap.size (Nat.le_refl _) SC hz (Sta.start eF (Or.inl (hsets _ (List.mem_of_getElem? (i := 7) rfl)))) hfv (Sta.start e_wP (Or.inr ⟨(own_g hw 3 rfl), (own_g hw 4 rfl)⟩)) (Exa.start e_wP k0) (own_fld e_wP e_tywP) (Exa.start e_tywP k4) (own_fld e_tywP e_twwP) (own_fld e_tywP (own_eqI k8)) (Arv.start hfit AwP z1wP z2wP (by decide) rfl ⟨own_elA e_twwP AwP (own_eqI k9) (by decide), ⟨own_elA e_twwP AwP (own_eqI k10) (by decide), ⟨own_elA e_twwP AwP (own_eqI k11) (by decide), ⟨own_elA e_twwP AwP (own_eqI k12) (by decide), trivial⟩⟩⟩⟩) (Sta.start e_wM (Or.inr ⟨(own_g hw 3 rfl), (own_g hw 7 rfl)⟩)) (Exa.start e_wM k1) (own_fld e_wM (own_eqN k19)) (Sta.start e_wH (Or.inr ⟨(own_g hw 3 rfl), (own_g hw 9 rfl)⟩)) (Exa.start e_wH k2) (own_fld e_wH e_tywH) (Exa.start e_tywH k14) (own_fld e_tywH e_twwH) (own_fld e_tywH (own_eqI k18)) (Arv.start hfit AwH z1wH z2wH (by decide) rfl ⟨own_elA e_twwH AwH (own_eqI k20) (by decide), ⟨own_elA e_twwH AwH (own_eqI k21) (by decide), ⟨own_elA e_twwH AwH (own_eqI k22) (by decide), ⟨own_elA e_twwH AwH (own_eqI k23) (by decide), ⟨own_elA e_twwH AwH (own_eqI k24) (by decide), ⟨own_elA e_twwH AwH (own_eqI k25) (by decide), ⟨own_elA e_twwH AwH (own_eqI k26) (by decide), trivial⟩⟩⟩⟩⟩⟩⟩) (Sta.start e_wQ (Or.inr ⟨(own_g hw 3 rfl), (own_g hw 11 rfl)⟩)) (Exa.start e_wQ k3) (own_fld e_wQ (own_eqN k13)) p e ha hc hk s m _ below hf ((Spec.applies_iff_loose hf).mp happ).1 ⟨rfl, State.Warmed39.refl s, rfl, CHv.start (own_hEL hw) (fun p hp => hcalls.1 p hp) (hsets _ (List.mem_of_getElem? (i := 2) rfl)) (own_g hw 31 rfl) (own_g hw 13 rfl)⟩ trivial
  refine ⟨n, _, h1, h2, h3, hpost _ _ _ _ _ _ ⟨Cond.after_iff.mpr rfl, Cond.after_iff.mpr (eq_i res_at (Term.int_eval (1)) rfl), trivial⟩ ⟨hq.1, hq.2.1, hq.2.2.1, (hq.2.2.2.sift fun y hy => Or.inr (N y hy)).mono (by decide) (by decide)⟩⟩
theorem main_1_1 : Claimed_1_1 := comes_1 fun _ _ _ _ _ _ h hF => ⟨h.1, hF⟩
theorem main_1_2 : Claimed_1_2 := comes_1 fun _ _ _ _ _ _ h hF => ⟨h.2.1, hF⟩
end Jvm.Pilot.@@N@@
namespace Jvm.Pilot.@@N@@
open Jvm Jvm.ClassFile Sem Op Lib Jvm.Free Jvm.Stand Jvm.Pilot.@@N@@.Jvm.D
/-! MADE BY PROGRAM (witnessworld.py) out of the Statement's table words and the real class files: 28 classes; the members and pool entries that the words name. The judged class is class 1, her method 2. -/
namespace start1
open Jvm.ClassFile
def u (s : String) : CpInfo := .utf8 (stringToUtf16 s)
/-- a pool by its gaps: so many unusable entries, then the entry; so many at the end -/
def gap : Nat → List CpInfo → List CpInfo
  | 0, r => r
  | n + 1, r => .unusable :: gap n r
def poolList (es : List (Nat × CpInfo)) (last : Nat) : List CpInfo := es.foldr (fun e r => gap e.1 (e.2 :: r)) (gap last [])
def pool (es : List (Nat × CpInfo)) (last : Nat) : Array CpInfo := ⟨poolList es last⟩
def fileOf (pool : Array CpInfo) (this : Nat) (attrs : Array Attribute := #[]) (ms : Array MethodInfo := #[]) (fl : Nat := 33) (sup : Nat := 0) (ifs : Array Nat := #[]) (fds : Array FieldInfo := #[]) : ClassFile where
  minorVersion := 0
  majorVersion := 65
  constantPool := pool
  accessFlags := fl
  thisClass := this
  superClass := sup
  interfaces := ifs
  fields := fds
  methods := ms
  attributes := attrs
def plain (name : String) (sup : Option ClassId) : Class where
  name := name
  kind := .ordinary
  loader := none
  accessFlags := 33
  super := sup
  interfaces := #[]
  cf := none
  fields := #[]
  methods := #[]
  instanceTypes := #[]
  staticTypes := #[]
  resolved := #[]
  callSites := []
  init := .initialized
  statics := none
  mirror := none

def pool0 : Array CpInfo := pool [(5, u "<init>"), (0, u "()V"), (1, .class_ 10), (1, u "java/lang/Object"), (85, u "clone"), (0, u "()Ljava/lang/Object;")] 26

def k0c0 : Code := { maxStack := 0, maxLocals := 1, code := object_method_1_code, exceptionTable := #[], attributes := #[] }
def k0m0 : Method := { name := "<init>", desc := "()V", sig := { parameters := [], returnType := none }, accessFlags := 1, code := some k0c0 }
def k0m1 : Method := { name := "clone", desc := "()Ljava/lang/Object;", sig := { parameters := [], returnType := some (.object "java/lang/Object") }, accessFlags := 260, code := none }
/-- java/lang/Object -/
def k0 : Class := { plain "java/lang/Object" none with
  accessFlags := 33
  interfaces := #[]
  cf := some (fileOf pool0 8 #[] #[{ accessFlags := 1, nameIndex := 5, descriptorIndex := 6, attributes := #[] }, { accessFlags := 260, nameIndex := 96, descriptorIndex := 97, attributes := #[] }] 33 0 #[] #[])
  fields := #[]
  methods := #[k0m0, k0m1]
  instanceTypes := #[]
  staticTypes := #[]
  resolved := Array.replicate 124 none
  statics := none }

def pool1 : Array CpInfo := pool [(2, .class_ 4), (1, u "java/lang/Object"), (0, u "<init>"), (0, u "()V"), (0, .methodref 8 9), (0, .class_ 10), (0, .nameAndType 11 12), (0, u "java/lang/String"), (0, u "length"), (0, u "()I"), (0, .methodref 8 14), (0, .nameAndType 15 16), (0, u "charAt"), (0, u "(I)C"), (0, .class_ 18), (0, u "com/example/librowmap/librowmap/sql/Dialect"), (0, .fieldref 17 20), (0, .nameAndType 21 22), (0, u "POSTGRESQL"), (0, u "Lcom/example/librowmap/librowmap/sql/Dialect;"), (0, .fieldref 17 24), (0, .nameAndType 25 22), (0, u "MARIADB"), (0, .fieldref 17 27), (0, .nameAndType 28 22), (0, u "H2"), (0, .fieldref 17 30), (0, .nameAndType 31 22), (0, u "SQL_SERVER"), (0, .methodref 8 33), (0, .nameAndType 5 34), (0, u "([C)V"), (0, .methodref 17 36), (0, .nameAndType 37 38), (0, u "textOf"), (0, u "(Ljava/lang/String;)Ljava/lang/String;"), (0, .methodref 8 40), (0, .nameAndType 41 42), (0, u "equals"), (0, u "(Ljava/lang/Object;)Z"), (0, .methodref 44 45), (0, .class_ 46), (0, .nameAndType 47 48), (0, u "com/example/librowmap/librowmap/sql/DialectTextOfPinLaw"), (0, u "eq"), (0, u "(Ljava/lang/String;IC)Z"), (3, u "law"), (0, u "(IIIII)Z")] 4

def k1m0 : Method := { name := "<init>", desc := "()V", sig := { parameters := [], returnType := none }, accessFlags := 1, code := none }
def k1c1 : Code := { maxStack := 2, maxLocals := 3, code := method_2_code, exceptionTable := #[], attributes := #[] }
def k1m1 : Method := { name := "eq", desc := "(Ljava/lang/String;IC)Z", sig := { parameters := [(.object "java/lang/String"), .int, .char], returnType := some .boolean }, accessFlags := 10, code := some k1c1 }
def k1c2 : Code := { maxStack := 6, maxLocals := 18, code := code, exceptionTable := #[], attributes := #[] }
def k1m2 : Method := { name := "law", desc := "(IIIII)Z", sig := { parameters := [.int, .int, .int, .int, .int], returnType := some .boolean }, accessFlags := 9, code := some k1c2 }
/-- com/example/librowmap/librowmap/sql/DialectTextOfPinLaw -/
def k1 : Class := { plain "com/example/librowmap/librowmap/sql/DialectTextOfPinLaw" (some 0) with
  accessFlags := 49
  interfaces := #[]
  cf := some (fileOf pool1 44 #[] #[{ accessFlags := 1, nameIndex := 5, descriptorIndex := 6, attributes := #[] }, { accessFlags := 10, nameIndex := 47, descriptorIndex := 48, attributes := #[] }, { accessFlags := 9, nameIndex := 52, descriptorIndex := 53, attributes := #[] }] 49 2 #[] #[])
  fields := #[]
  methods := #[k1m0, k1m1, k1m2]
  instanceTypes := #[]
  staticTypes := #[]
  resolved := Array.replicate 58 none
  statics := none }

def pool2 : Array CpInfo := pool [(1, .class_ 2), (0, u "java/lang/constant/Constable"), (0, .class_ 4), (0, u "java/lang/Object")] 6

/-- java/lang/constant/Constable -/
def k2 : Class := { plain "java/lang/constant/Constable" (some 0) with
  accessFlags := 1537
  interfaces := #[]
  cf := some (fileOf pool2 1 #[] #[] 1537 3 #[] #[])
  fields := #[]
  methods := #[]
  instanceTypes := #[]
  staticTypes := #[]
  resolved := Array.replicate 11 none
  statics := none }

def pool3 : Array CpInfo := pool [(1, .class_ 2), (0, u "java/lang/Comparable"), (0, .class_ 4), (0, u "java/lang/Object")] 7

/-- java/lang/Comparable -/
def k3 : Class := { plain "java/lang/Comparable" (some 0) with
  accessFlags := 1537
  interfaces := #[]
  cf := some (fileOf pool3 1 #[] #[] 1537 3 #[] #[])
  fields := #[]
  methods := #[]
  instanceTypes := #[]
  staticTypes := #[]
  resolved := Array.replicate 12 none
  statics := none }

def pool4 : Array CpInfo := pool [(1, .class_ 2), (0, u "java/io/Serializable"), (0, .class_ 4), (0, u "java/lang/Object")] 2

/-- java/io/Serializable -/
def k4 : Class := { plain "java/io/Serializable" (some 0) with
  accessFlags := 1537
  interfaces := #[]
  cf := some (fileOf pool4 1 #[] #[] 1537 3 #[] #[])
  fields := #[]
  methods := #[]
  instanceTypes := #[]
  staticTypes := #[]
  resolved := Array.replicate 7 none
  statics := none }

def pool5 : Array CpInfo := pool [(2, .class_ 4), (1, u "java/lang/Enum"), (0, u "name"), (0, u "Ljava/lang/String;"), (2, u "ordinal"), (0, u "I"), (1, .class_ 14), (1, u "java/lang/Object"), (4, u "hash"), (86, .class_ 108), (1, u "java/lang/Enum$EnumDesc"), (2, .class_ 112), (0, u "java/lang/constant/Constable"), (0, .class_ 114), (0, u "java/lang/Comparable"), (0, .class_ 116), (0, u "java/io/Serializable")] 87

/-- java/lang/Enum -/
def k5 : Class := { plain "java/lang/Enum" (some 0) with
  accessFlags := 1057
  interfaces := #[2, 3, 4]
  cf := some (fileOf pool5 2 #[.nestMembers #[106]] #[] 1057 12 #[111, 113, 115] #[{ accessFlags := 18, nameIndex := 5, descriptorIndex := 6, attributes := #[] }, { accessFlags := 18, nameIndex := 9, descriptorIndex := 10, attributes := #[] }, { accessFlags := 2, nameIndex := 19, descriptorIndex := 10, attributes := #[] }])
  fields := #[{ name := "name", type := (.object "java/lang/String"), accessFlags := 18, slot := 0, constantValue := 0 }, { name := "ordinal", type := .int, accessFlags := 18, slot := 1, constantValue := 0 }, { name := "hash", type := .int, accessFlags := 2, slot := 2, constantValue := 0 }]
  methods := #[]
  instanceTypes := #[(.object "java/lang/String"), .int, .int]
  staticTypes := #[]
  resolved := Array.replicate 204 none
  statics := none }

def pool6 : Array CpInfo := pool [(1, .class_ 2), (0, u "com/example/librowmap/librowmap/sql/Dialect"), (2, u "POSTGRESQL"), (0, u "Lcom/example/librowmap/librowmap/sql/Dialect;"), (2, u "MARIADB"), (2, u "H2"), (2, u "SQL_SERVER"), (2, u "$VALUES"), (0, u "[Lcom/example/librowmap/librowmap/sql/Dialect;"), (6, .class_ 28), (1, u "java/lang/Enum"), (4, u "<init>"), (3, u "productNames"), (0, u "Ljava/util/List;"), (2, u "openQuote"), (0, u "C"), (2, u "closeQuote"), (2, u "paging"), (0, u "Lcom/example/librowmap/librowmap/sql/Dialect$Paging;"), (2, u "rowOfDefaults"), (0, u "Ljava/lang/String;"), (2, u "sx"), (0, u "Ljava/util/Set;"), (2, u "sxSettingsQuery"), (2, u "rulesReversed"), (0, u "Ljava/util/Map;"), (2, u "nullTypeNames"), (2, u "nameBinding"), (0, u "Lcom/example/librowmap/librowmap/sql/Dialect$NameBinding;"), (0, .fieldref 1 73), (0, .nameAndType 74 53), (0, u "textType"), (2, u "instantBinding"), (0, u "Lcom/example/librowmap/librowmap/sql/Dialect$InstantBinding;"), (2, u "dateTimeReading"), (0, u "Lcom/example/librowmap/librowmap/sql/Dialect$DateTimeReading;"), (2, u "afterRefusal"), (0, u "Lcom/example/librowmap/librowmap/sql/Dialect$AfterRefusal;"), (2, u "textHeld"), (0, u "Lcom/example/librowmap/librowmap/sql/Dialect$TextHeld;"), (38, .class_ 130), (0, u "java/lang/StringBuilder"), (0, .methodref 129 132), (0, .nameAndType 33 133), (0, u "()V"), (2, .methodref 129 137), (0, .nameAndType 138 139), (0, u "append"), (0, u "(Ljava/lang/String;)Ljava/lang/StringBuilder;"), (7, .methodref 129 148), (0, .nameAndType 149 150), (0, u "toString"), (0, u "()Ljava/lang/String;"), (75, .class_ 228), (1, u "com/example/librowmap/librowmap/sql/Dialect$DateTimeReading"), (2, .class_ 233), (1, u "com/example/librowmap/librowmap/sql/Dialect$AfterRefusal"), (1, .string 236), (0, u "CAST("), (0, .string 238), (0, u " AS "), (0, .string 240), (0, u ")"), (3, .class_ 246), (1, u "com/example/librowmap/librowmap/sql/Dialect$InstantBinding"), (23, u "UTC_LITERAL"), (0, u "Ljava/time/format/DateTimeFormatter;"), (25, .class_ 299), (1, u "com/example/librowmap/librowmap/sql/Dialect$TextHeld"), (4, u "(Ljava/lang/String;)Ljava/lang/String;"), (2, u "FIRST_DATE_TIME"), (0, u "Ljava/time/Instant;"), (6, u "LAST_DATE_TIME"), (63, .class_ 381), (1, u "com/example/librowmap/librowmap/sql/Dialect$Paging"), (48, .class_ 432), (1, u "com/example/librowmap/librowmap/sql/Dialect$NameBinding"), (139, u "TIMESTAMPTZ"), (29, u "textOf")] 13

def k6c0 : Code := { maxStack := 2, maxLocals := 3, code := prog_92_method_16_code, exceptionTable := #[], attributes := #[] }
def k6m0 : Method := { name := "textOf", desc := "(Ljava/lang/String;)Ljava/lang/String;", sig := { parameters := [(.object "java/lang/String")], returnType := some (.object "java/lang/String") }, accessFlags := 0, code := some k6c0 }
/-- com/example/librowmap/librowmap/sql/Dialect -/
def k6 : Class := { plain "com/example/librowmap/librowmap/sql/Dialect" (some 5) with
  accessFlags := 16433
  interfaces := #[]
  cf := some (fileOf pool6 1 #[.nestMembers #[297, 231, 226, 244, 430, 379]] #[{ accessFlags := 0, nameIndex := 602, descriptorIndex := 304, attributes := #[] }] 16433 26 #[] #[{ accessFlags := 16409, nameIndex := 5, descriptorIndex := 6, attributes := #[] }, { accessFlags := 16409, nameIndex := 9, descriptorIndex := 6, attributes := #[] }, { accessFlags := 16409, nameIndex := 12, descriptorIndex := 6, attributes := #[] }, { accessFlags := 16409, nameIndex := 15, descriptorIndex := 6, attributes := #[] }, { accessFlags := 26, nameIndex := 572, descriptorIndex := 53, attributes := #[] }, { accessFlags := 26, nameIndex := 270, descriptorIndex := 271, attributes := #[] }, { accessFlags := 26, nameIndex := 307, descriptorIndex := 308, attributes := #[] }, { accessFlags := 26, nameIndex := 315, descriptorIndex := 308, attributes := #[] }, { accessFlags := 18, nameIndex := 37, descriptorIndex := 38, attributes := #[] }, { accessFlags := 18, nameIndex := 41, descriptorIndex := 42, attributes := #[] }, { accessFlags := 18, nameIndex := 45, descriptorIndex := 42, attributes := #[] }, { accessFlags := 18, nameIndex := 48, descriptorIndex := 49, attributes := #[] }, { accessFlags := 18, nameIndex := 52, descriptorIndex := 53, attributes := #[] }, { accessFlags := 18, nameIndex := 56, descriptorIndex := 57, attributes := #[] }, { accessFlags := 18, nameIndex := 60, descriptorIndex := 53, attributes := #[] }, { accessFlags := 18, nameIndex := 63, descriptorIndex := 64, attributes := #[] }, { accessFlags := 18, nameIndex := 67, descriptorIndex := 64, attributes := #[] }, { accessFlags := 18, nameIndex := 70, descriptorIndex := 71, attributes := #[] }, { accessFlags := 18, nameIndex := 74, descriptorIndex := 53, attributes := #[] }, { accessFlags := 18, nameIndex := 77, descriptorIndex := 78, attributes := #[] }, { accessFlags := 18, nameIndex := 81, descriptorIndex := 82, attributes := #[] }, { accessFlags := 18, nameIndex := 85, descriptorIndex := 86, attributes := #[] }, { accessFlags := 18, nameIndex := 89, descriptorIndex := 90, attributes := #[] }, { accessFlags := 4122, nameIndex := 18, descriptorIndex := 19, attributes := #[] }])
  fields := #[{ name := "POSTGRESQL", type := (.object "com/example/librowmap/librowmap/sql/Dialect"), accessFlags := 16409, slot := 0, constantValue := 0 }, { name := "MARIADB", type := (.object "com/example/librowmap/librowmap/sql/Dialect"), accessFlags := 16409, slot := 1, constantValue := 0 }, { name := "H2", type := (.object "com/example/librowmap/librowmap/sql/Dialect"), accessFlags := 16409, slot := 2, constantValue := 0 }, { name := "SQL_SERVER", type := (.object "com/example/librowmap/librowmap/sql/Dialect"), accessFlags := 16409, slot := 3, constantValue := 0 }, { name := "TIMESTAMPTZ", type := (.object "java/lang/String"), accessFlags := 26, slot := 4, constantValue := 0 }, { name := "UTC_LITERAL", type := (.object "java/time/format/DateTimeFormatter"), accessFlags := 26, slot := 5, constantValue := 0 }, { name := "FIRST_DATE_TIME", type := (.object "java/time/Instant"), accessFlags := 26, slot := 6, constantValue := 0 }, { name := "LAST_DATE_TIME", type := (.object "java/time/Instant"), accessFlags := 26, slot := 7, constantValue := 0 }, { name := "productNames", type := (.object "java/util/List"), accessFlags := 18, slot := 3, constantValue := 0 }, { name := "openQuote", type := .char, accessFlags := 18, slot := 4, constantValue := 0 }, { name := "closeQuote", type := .char, accessFlags := 18, slot := 5, constantValue := 0 }, { name := "paging", type := (.object "com/example/librowmap/librowmap/sql/Dialect$Paging"), accessFlags := 18, slot := 6, constantValue := 0 }, { name := "rowOfDefaults", type := (.object "java/lang/String"), accessFlags := 18, slot := 7, constantValue := 0 }, { name := "sx", type := (.object "java/util/Set"), accessFlags := 18, slot := 8, constantValue := 0 }, { name := "sxSettingsQuery", type := (.object "java/lang/String"), accessFlags := 18, slot := 9, constantValue := 0 }, { name := "rulesReversed", type := (.object "java/util/Map"), accessFlags := 18, slot := 10, constantValue := 0 }, { name := "nullTypeNames", type := (.object "java/util/Map"), accessFlags := 18, slot := 11, constantValue := 0 }, { name := "nameBinding", type := (.object "com/example/librowmap/librowmap/sql/Dialect$NameBinding"), accessFlags := 18, slot := 12, constantValue := 0 }, { name := "textType", type := (.object "java/lang/String"), accessFlags := 18, slot := 13, constantValue := 0 }, { name := "instantBinding", type := (.object "com/example/librowmap/librowmap/sql/Dialect$InstantBinding"), accessFlags := 18, slot := 14, constantValue := 0 }, { name := "dateTimeReading", type := (.object "com/example/librowmap/librowmap/sql/Dialect$DateTimeReading"), accessFlags := 18, slot := 15, constantValue := 0 }, { name := "afterRefusal", type := (.object "com/example/librowmap/librowmap/sql/Dialect$AfterRefusal"), accessFlags := 18, slot := 16, constantValue := 0 }, { name := "textHeld", type := (.object "com/example/librowmap/librowmap/sql/Dialect$TextHeld"), accessFlags := 18, slot := 17, constantValue := 0 }, { name := "$VALUES", type := (.array (.object "com/example/librowmap/librowmap/sql/Dialect")), accessFlags := 4122, slot := 8, constantValue := 0 }]
  methods := #[k6m0]
  instanceTypes := #[(.object "java/lang/String"), .int, .int, (.object "java/util/List"), .char, .char, (.object "com/example/librowmap/librowmap/sql/Dialect$Paging"), (.object "java/lang/String"), (.object "java/util/Set"), (.object "java/lang/String"), (.object "java/util/Map"), (.object "java/util/Map"), (.object "com/example/librowmap/librowmap/sql/Dialect$NameBinding"), (.object "java/lang/String"), (.object "com/example/librowmap/librowmap/sql/Dialect$InstantBinding"), (.object "com/example/librowmap/librowmap/sql/Dialect$DateTimeReading"), (.object "com/example/librowmap/librowmap/sql/Dialect$AfterRefusal"), (.object "com/example/librowmap/librowmap/sql/Dialect$TextHeld")]
  staticTypes := #[(.object "com/example/librowmap/librowmap/sql/Dialect"), (.object "com/example/librowmap/librowmap/sql/Dialect"), (.object "com/example/librowmap/librowmap/sql/Dialect"), (.object "com/example/librowmap/librowmap/sql/Dialect"), (.object "java/lang/String"), (.object "java/time/format/DateTimeFormatter"), (.object "java/time/Instant"), (.object "java/time/Instant"), (.array (.object "com/example/librowmap/librowmap/sql/Dialect"))]
  resolved := Array.replicate 616 none
  statics := some 0 }

def pool7 : Array CpInfo := pool [(2, .class_ 4), (1, u "java/lang/CharSequence"), (42, .class_ 48), (0, u "java/lang/CharSequence$1CodePointIterator"), (10, .class_ 60), (0, u "java/lang/CharSequence$1CharIterator"), (5, .class_ 67), (0, u "java/lang/Object")] 63

/-- java/lang/CharSequence -/
def k7 : Class := { plain "java/lang/CharSequence" (some 0) with
  accessFlags := 1537
  interfaces := #[]
  cf := some (fileOf pool7 2 #[.nestMembers #[47, 59]] #[] 1537 66 #[] #[])
  fields := #[]
  methods := #[]
  instanceTypes := #[]
  staticTypes := #[]
  resolved := Array.replicate 131 none
  statics := none }

def pool8 : Array CpInfo := pool [(1, .class_ 2), (0, u "java/lang/constant/ConstantDesc"), (0, .class_ 4), (0, u "java/lang/Object")] 32

/-- java/lang/constant/ConstantDesc -/
def k8 : Class := { plain "java/lang/constant/ConstantDesc" (some 0) with
  accessFlags := 1537
  interfaces := #[]
  cf := some (fileOf pool8 1 #[] #[] 1537 3 #[] #[])
  fields := #[]
  methods := #[]
  instanceTypes := #[]
  staticTypes := #[]
  resolved := Array.replicate 37 none
  statics := none }

def pool9 : Array CpInfo := pool [(1, .methodref 2 3), (0, .class_ 4), (0, .nameAndType 5 6), (0, u "java/lang/Object"), (0, u "<init>"), (0, u "()V"), (0, .string 8), (0, u ""), (0, .fieldref 10 11), (0, .class_ 12), (0, .nameAndType 13 14), (0, u "java/lang/String"), (0, u "value"), (0, u "[B"), (0, .fieldref 10 16), (0, .nameAndType 17 18), (0, u "coder"), (0, u "B"), (2, u "hash"), (0, u "I"), (2, u "hashIsZero"), (0, u "Z"), (0, .methodref 10 28), (0, .nameAndType 5 29), (0, u "([CIILjava/lang/Void;)V"), (8, .fieldref 10 39), (0, .nameAndType 40 26), (0, u "COMPACT_STRINGS"), (1, .class_ 44), (1, u "java/lang/StringUTF16"), (0, u "compress"), (1, .methodref 42 48), (0, .nameAndType 49 50), (0, u "coderFromArrayLen"), (0, u "([BI)B"), (3, .methodref 55 56), (0, .class_ 57), (0, .nameAndType 58 59), (0, u "java/util/Arrays"), (0, u "copyOfRange"), (0, u "([BII)[B"), (47, .class_ 109), (1, u "java/lang/StringLatin1"), (32, u "()Z"), (34, .methodref 42 178), (0, .nameAndType 45 179), (0, u "([CII)[B"), (13, .class_ 195), (1, u "java/lang/System"), (16, .methodref 193 213), (0, .nameAndType 214 215), (0, u "arraycopy"), (0, u "(Ljava/lang/Object;ILjava/lang/Object;II)V"), (118, u "()I"), (0, .methodref 10 336), (0, .nameAndType 17 337), (0, u "()B"), (2, u "()[B"), (22, u "([BI)C"), (27, u "(II)V"), (35, u "(I)C"), (61, .methodref 10 490), (0, .nameAndType 5 491), (0, u "(Ljava/lang/AbstractStringBuilder;Ljava/lang/Void;)V"), (0, .methodref 10 493), (0, .nameAndType 494 142), (0, u "isLatin1"), (0, .methodref 107 496), (0, .nameAndType 497 363), (0, u "charAt"), (3, u "checkIndex"), (4, .nameAndType 507 334), (0, u "length"), (24, u "getBytes"), (10, u "equals"), (5, .methodref 550 506), (0, .class_ 551), (0, u "java/lang/AbstractStringBuilder"), (0, .methodref 550 553), (0, .nameAndType 554 340), (0, u "getValue"), (18, u "(Ljava/lang/Object;)Z"), (1, .class_ 576), (0, u "java/lang/CharSequence"), (22, u "CASE_INSENSITIVE_ORDER"), (0, u "Ljava/util/Comparator;"), (220, u "([BIB)V"), (188, u "([C)V"), (36, .methodref 550 493), (5, .fieldref 1054 1055), (0, .class_ 1056), (0, .nameAndType 1057 1058), (0, u "jdk/internal/util/Preconditions"), (0, u "SIOOBE_FORMATTER"), (0, u "Ljava/util/function/BiFunction;"), (0, .methodref 1054 1060), (0, .nameAndType 501 1061), (0, u "(IILjava/util/function/BiFunction;)I"), (39, u "serialPersistentFields"), (0, u "[Ljava/io/ObjectStreamField;"), (0, .class_ 1104), (0, u "java/lang/String$CaseInsensitiveComparator"), (1, .class_ 1107), (0, u "java/io/Serializable"), (0, .class_ 1109), (0, u "java/lang/Comparable"), (0, .class_ 1111), (0, u "java/lang/constant/Constable"), (0, .class_ 1113), (0, u "java/lang/constant/ConstantDesc"), (2, u "serialVersionUID"), (0, u "J"), (3, u "REPL"), (0, u "C"), (2, u "LATIN1"), (1, u "UTF16"), (105, u "(Ljava/lang/StringBuilder;)V")] 217

def k9m0 : Method := { name := "<init>", desc := "()V", sig := { parameters := [], returnType := none }, accessFlags := 1, code := none }
def k9c1 : Code := { maxStack := 5, maxLocals := 2, code := jdk_42_method_3_code, exceptionTable := #[], attributes := #[] }
def k9m1 : Method := { name := "<init>", desc := "([C)V", sig := { parameters := [(.array .char)], returnType := none }, accessFlags := 1, code := some k9c1 }
def k9c2 : Code := { maxStack := 3, maxLocals := 2, code := jdk_42_method_53_code, exceptionTable := #[], attributes := #[] }
def k9m2 : Method := { name := "<init>", desc := "(Ljava/lang/StringBuilder;)V", sig := { parameters := [(.object "java/lang/StringBuilder")], returnType := none }, accessFlags := 1, code := some k9c2 }
def k9c3 : Code := { maxStack := 2, maxLocals := 1, code := jdk_42_method_54_code, exceptionTable := #[], attributes := #[] }
def k9m3 : Method := { name := "length", desc := "()I", sig := { parameters := [], returnType := some .int }, accessFlags := 1, code := some k9c3 }
def k9c4 : Code := { maxStack := 2, maxLocals := 2, code := jdk_42_method_56_code, exceptionTable := #[], attributes := #[] }
def k9m4 : Method := { name := "charAt", desc := "(I)C", sig := { parameters := [.int], returnType := some .char }, accessFlags := 1, code := some k9c4 }
def k9c5 : Code := { maxStack := 2, maxLocals := 3, code := jdk_42_method_66_code, exceptionTable := #[], attributes := #[] }
def k9m5 : Method := { name := "equals", desc := "(Ljava/lang/Object;)Z", sig := { parameters := [(.object "java/lang/Object")], returnType := some .boolean }, accessFlags := 1, code := some k9c5 }
def k9c6 : Code := { maxStack := 5, maxLocals := 4, code := jdk_42_method_147_code, exceptionTable := #[], attributes := #[] }
def k9m6 : Method := { name := "getBytes", desc := "([BIB)V", sig := { parameters := [(.array .byte), .int, .byte], returnType := none }, accessFlags := 0, code := some k9c6 }
def k9c7 : Code := { maxStack := 4, maxLocals := 6, code := jdk_42_method_149_code, exceptionTable := #[], attributes := #[] }
def k9m7 : Method := { name := "<init>", desc := "([CIILjava/lang/Void;)V", sig := { parameters := [(.array .char), .int, .int, (.object "java/lang/Void")], returnType := none }, accessFlags := 2, code := some k9c7 }
def k9c8 : Code := { maxStack := 5, maxLocals := 5, code := jdk_42_method_150_code, exceptionTable := #[], attributes := #[] }
def k9m8 : Method := { name := "<init>", desc := "(Ljava/lang/AbstractStringBuilder;Ljava/lang/Void;)V", sig := { parameters := [(.object "java/lang/AbstractStringBuilder"), (.object "java/lang/Void")], returnType := none }, accessFlags := 0, code := some k9c8 }
def k9c9 : Code := { maxStack := 1, maxLocals := 1, code := jdk_42_method_152_code, exceptionTable := #[], attributes := #[] }
def k9m9 : Method := { name := "coder", desc := "()B", sig := { parameters := [], returnType := some .byte }, accessFlags := 0, code := some k9c9 }
def k9c10 : Code := { maxStack := 1, maxLocals := 1, code := jdk_42_method_154_code, exceptionTable := #[], attributes := #[] }
def k9m10 : Method := { name := "isLatin1", desc := "()Z", sig := { parameters := [], returnType := some .boolean }, accessFlags := 0, code := some k9c10 }
def k9c11 : Code := { maxStack := 3, maxLocals := 2, code := jdk_42_method_155_code, exceptionTable := #[], attributes := #[] }
def k9m11 : Method := { name := "checkIndex", desc := "(II)V", sig := { parameters := [.int, .int], returnType := none }, accessFlags := 8, code := some k9c11 }
/-- java/lang/String -/
def k9 : Class := { plain "java/lang/String" (some 0) with
  accessFlags := 49
  interfaces := #[4, 3, 7, 2, 8]
  cf := some (fileOf pool9 10 #[.nestMembers #[1103]] #[{ accessFlags := 1, nameIndex := 5, descriptorIndex := 6, attributes := #[] }, { accessFlags := 1, nameIndex := 5, descriptorIndex := 1010, attributes := #[] }, { accessFlags := 1, nameIndex := 5, descriptorIndex := 1233, attributes := #[] }, { accessFlags := 1, nameIndex := 507, descriptorIndex := 334, attributes := #[] }, { accessFlags := 1, nameIndex := 497, descriptorIndex := 427, attributes := #[] }, { accessFlags := 1, nameIndex := 543, descriptorIndex := 573, attributes := #[] }, { accessFlags := 0, nameIndex := 532, descriptorIndex := 821, attributes := #[] }, { accessFlags := 2, nameIndex := 5, descriptorIndex := 29, attributes := #[] }, { accessFlags := 0, nameIndex := 5, descriptorIndex := 491, attributes := #[] }, { accessFlags := 0, nameIndex := 17, descriptorIndex := 337, attributes := #[] }, { accessFlags := 0, nameIndex := 494, descriptorIndex := 142, attributes := #[] }, { accessFlags := 8, nameIndex := 501, descriptorIndex := 391, attributes := #[] }] 49 2 #[1106, 1108, 575, 1110, 1112] #[{ accessFlags := 18, nameIndex := 13, descriptorIndex := 14, attributes := #[] }, { accessFlags := 18, nameIndex := 17, descriptorIndex := 18, attributes := #[] }, { accessFlags := 2, nameIndex := 21, descriptorIndex := 22, attributes := #[] }, { accessFlags := 2, nameIndex := 25, descriptorIndex := 26, attributes := #[] }, { accessFlags := 26, nameIndex := 1116, descriptorIndex := 1117, attributes := #[] }, { accessFlags := 24, nameIndex := 40, descriptorIndex := 26, attributes := #[] }, { accessFlags := 26, nameIndex := 1101, descriptorIndex := 1102, attributes := #[] }, { accessFlags := 26, nameIndex := 1121, descriptorIndex := 1122, attributes := #[] }, { accessFlags := 25, nameIndex := 599, descriptorIndex := 600, attributes := #[] }, { accessFlags := 24, nameIndex := 1125, descriptorIndex := 18, attributes := #[] }, { accessFlags := 24, nameIndex := 1127, descriptorIndex := 18, attributes := #[] }])
  fields := #[{ name := "value", type := (.array .byte), accessFlags := 18, slot := 0, constantValue := 0 }, { name := "coder", type := .byte, accessFlags := 18, slot := 1, constantValue := 0 }, { name := "hash", type := .int, accessFlags := 2, slot := 2, constantValue := 0 }, { name := "hashIsZero", type := .boolean, accessFlags := 2, slot := 3, constantValue := 0 }, { name := "serialVersionUID", type := .long, accessFlags := 26, slot := 0, constantValue := 0 }, { name := "COMPACT_STRINGS", type := .boolean, accessFlags := 24, slot := 1, constantValue := 0 }, { name := "serialPersistentFields", type := (.array (.object "java/io/ObjectStreamField")), accessFlags := 26, slot := 2, constantValue := 0 }, { name := "REPL", type := .char, accessFlags := 26, slot := 3, constantValue := 0 }, { name := "CASE_INSENSITIVE_ORDER", type := (.object "java/util/Comparator"), accessFlags := 25, slot := 4, constantValue := 0 }, { name := "LATIN1", type := .byte, accessFlags := 24, slot := 5, constantValue := 0 }, { name := "UTF16", type := .byte, accessFlags := 24, slot := 6, constantValue := 0 }]
  methods := #[k9m0, k9m1, k9m2, k9m3, k9m4, k9m5, k9m6, k9m7, k9m8, k9m9, k9m10, k9m11]
  instanceTypes := #[(.array .byte), .byte, .int, .boolean]
  staticTypes := #[.long, .boolean, (.array (.object "java/io/ObjectStreamField")), .char, (.object "java/util/Comparator"), .byte, .byte]
  resolved := Array.replicate 1451 none
  statics := some 1 }

def pool10 : Array CpInfo := pool [(6, .class_ 8), (1, u "java/lang/Object"), (0, u "<init>"), (0, u "()V"), (1, .class_ 14), (1, u "java/lang/StringUTF16"), (31, u "$assertionsDisabled"), (0, u "Z"), (13, u "HI_BYTE_SHIFT"), (0, u "I"), (2, u "LO_BYTE_SHIFT"), (49, .methodref 12 116), (0, .nameAndType 117 118), (0, u "compress"), (0, u "([CI[BII)I"), (3, u "([CII)[B"), (138, u "coderFromArrayLen"), (0, u "([BI)B"), (106, .class_ 371), (1, u "java/lang/StringUTF16$LinesSpliterator"), (58, u "MAX_LENGTH"), (196, .class_ 628), (0, u "java/lang/StringUTF16$CodePointsSpliterator"), (0, .class_ 630), (0, u "java/lang/StringUTF16$CharsSpliterator")] 4

def k10m0 : Method := { name := "<init>", desc := "()V", sig := { parameters := [], returnType := none }, accessFlags := 0, code := none }
def k10c1 : Code := { maxStack := 2, maxLocals := 2, code := jdk_52_method_15_code, exceptionTable := #[], attributes := #[] }
def k10m1 : Method := { name := "coderFromArrayLen", desc := "([BI)B", sig := { parameters := [(.array .byte), .int], returnType := some .byte }, accessFlags := 8, code := some k10c1 }
def k10c2 : Code := { maxStack := 5, maxLocals := 6, code := jdk_52_method_16_code, exceptionTable := #[], attributes := #[] }
def k10m2 : Method := { name := "compress", desc := "([CII)[B", sig := { parameters := [(.array .char), .int, .int], returnType := some (.array .byte) }, accessFlags := 9, code := some k10c2 }
def k10c3 : Code := { maxStack := 3, maxLocals := 7, code := jdk_52_method_21_code, exceptionTable := #[], attributes := #[] }
def k10m3 : Method := { name := "compress", desc := "([CI[BII)I", sig := { parameters := [(.array .char), .int, (.array .byte), .int, .int], returnType := some .int }, accessFlags := 9, code := some k10c3 }
/-- java/lang/StringUTF16 -/
def k10 : Class := { plain "java/lang/StringUTF16" (some 0) with
  accessFlags := 48
  interfaces := #[]
  cf := some (fileOf pool10 12 #[.nestMembers #[627, 629, 369]] #[{ accessFlags := 0, nameIndex := 9, descriptorIndex := 10, attributes := #[] }, { accessFlags := 8, nameIndex := 261, descriptorIndex := 262, attributes := #[] }, { accessFlags := 9, nameIndex := 117, descriptorIndex := 122, attributes := #[] }, { accessFlags := 9, nameIndex := 117, descriptorIndex := 118, attributes := #[] }] 48 6 #[] #[{ accessFlags := 26, nameIndex := 61, descriptorIndex := 62, attributes := #[] }, { accessFlags := 26, nameIndex := 65, descriptorIndex := 62, attributes := #[] }, { accessFlags := 24, nameIndex := 430, descriptorIndex := 62, attributes := #[] }, { accessFlags := 4120, nameIndex := 46, descriptorIndex := 47, attributes := #[] }])
  fields := #[{ name := "HI_BYTE_SHIFT", type := .int, accessFlags := 26, slot := 0, constantValue := 0 }, { name := "LO_BYTE_SHIFT", type := .int, accessFlags := 26, slot := 1, constantValue := 0 }, { name := "MAX_LENGTH", type := .int, accessFlags := 24, slot := 2, constantValue := 0 }, { name := "$assertionsDisabled", type := .boolean, accessFlags := 4120, slot := 3, constantValue := 0 }]
  methods := #[k10m0, k10m1, k10m2, k10m3]
  instanceTypes := #[]
  staticTypes := #[.int, .int, .int, .boolean]
  resolved := Array.replicate 635 none
  statics := none }

def pool11 : Array CpInfo := pool [(1, .class_ 2), (0, u "java/lang/Appendable"), (0, .class_ 4), (0, u "java/lang/Object")] 9

/-- java/lang/Appendable -/
def k11 : Class := { plain "java/lang/Appendable" (some 0) with
  accessFlags := 1537
  interfaces := #[]
  cf := some (fileOf pool11 1 #[] #[] 1537 3 #[] #[])
  fields := #[]
  methods := #[]
  instanceTypes := #[]
  staticTypes := #[]
  resolved := Array.replicate 14 none
  statics := none }

def pool12 : Array CpInfo := pool [(1, .class_ 2), (0, u "java/lang/String"), (0, .methodref 4 5), (0, .class_ 6), (0, .nameAndType 7 8), (0, u "java/lang/Object"), (0, u "<init>"), (0, u "()V"), (1, .class_ 12), (1, u "java/lang/AbstractStringBuilder"), (0, u "EMPTYVALUE"), (0, u "[B"), (0, .fieldref 10 16), (0, .nameAndType 17 14), (0, u "value"), (0, .fieldref 1 19), (0, .nameAndType 20 21), (0, u "COMPACT_STRINGS"), (0, u "Z"), (0, .fieldref 10 23), (0, .nameAndType 24 25), (0, u "coder"), (0, u "B"), (6, .methodref 1 33), (0, .nameAndType 34 35), (0, u "length"), (0, u "()I"), (3, .integer 2147483647), (0, .methodref 1 41), (0, .nameAndType 24 42), (0, u "()B"), (2, u "append"), (0, u "(Ljava/lang/String;)Ljava/lang/AbstractStringBuilder;"), (1, .class_ 49), (0, u "java/lang/CharSequence"), (19, u "(Ljava/lang/String;)V"), (5, u "maybeLatin1"), (3, .fieldref 10 80), (0, .nameAndType 81 82), (0, u "count"), (0, u "I"), (2, u "isLatin1"), (0, u "()Z"), (13, .methodref 10 101), (0, .nameAndType 102 103), (0, u "ensureCapacityInternal"), (0, u "(I)V"), (0, .methodref 10 105), (0, .nameAndType 106 107), (0, u "newCapacity"), (0, u "(I)I"), (0, .methodref 109 110), (0, .class_ 111), (0, .nameAndType 112 113), (0, u "java/util/Arrays"), (0, u "copyOf"), (0, u "([BI)[B"), (0, .methodref 115 116), (0, .class_ 117), (0, .nameAndType 118 119), (0, u "jdk/internal/util/ArraysSupport"), (0, u "newLength"), (0, u "(III)I"), (88, .methodref 10 209), (0, .nameAndType 210 211), (0, u "putStringAt"), (0, u "(ILjava/lang/String;)V"), (5, u "inflateIfNeededFor"), (2, .nameAndType 221 222), (0, u "getBytes"), (0, u "([BIB)V"), (174, .methodref 10 398), (0, .nameAndType 217 69), (0, .methodref 1 220), (3, u "()[B"), (40, .class_ 445), (0, u "java/lang/Appendable"), (106, u "getValue")] 56

def k12m0 : Method := { name := "<init>", desc := "()V", sig := { parameters := [], returnType := none }, accessFlags := 0, code := none }
def k12c1 : Code := { maxStack := 2, maxLocals := 2, code := jdk_68_method_2_code, exceptionTable := #[], attributes := #[] }
def k12m1 : Method := { name := "<init>", desc := "(I)V", sig := { parameters := [.int], returnType := none }, accessFlags := 0, code := some k12c1 }
def k12c2 : Code := { maxStack := 1, maxLocals := 1, code := jdk_68_method_6_code, exceptionTable := #[], attributes := #[] }
def k12m2 : Method := { name := "length", desc := "()I", sig := { parameters := [], returnType := some .int }, accessFlags := 1, code := some k12c2 }
def k12c3 : Code := { maxStack := 4, maxLocals := 3, code := jdk_68_method_9_code, exceptionTable := #[], attributes := #[] }
def k12m3 : Method := { name := "ensureCapacityInternal", desc := "(I)V", sig := { parameters := [.int], returnType := none }, accessFlags := 2, code := some k12c3 }
def k12c4 : Code := { maxStack := 5, maxLocals := 6, code := jdk_68_method_10_code, exceptionTable := #[], attributes := #[] }
def k12m4 : Method := { name := "newCapacity", desc := "(I)I", sig := { parameters := [.int], returnType := some .int }, accessFlags := 2, code := some k12c4 }
def k12c5 : Code := { maxStack := 3, maxLocals := 3, code := jdk_68_method_22_code, exceptionTable := #[], attributes := #[] }
def k12m5 : Method := { name := "append", desc := "(Ljava/lang/String;)Ljava/lang/AbstractStringBuilder;", sig := { parameters := [(.object "java/lang/String")], returnType := some (.object "java/lang/AbstractStringBuilder") }, accessFlags := 1, code := some k12c5 }
def k12c6 : Code := { maxStack := 1, maxLocals := 1, code := jdk_68_method_64_code, exceptionTable := #[], attributes := #[] }
def k12m6 : Method := { name := "getValue", desc := "()[B", sig := { parameters := [], returnType := some (.array .byte) }, accessFlags := 16, code := some k12c6 }
def k12c7 : Code := { maxStack := 1, maxLocals := 1, code := jdk_68_method_68_code, exceptionTable := #[], attributes := #[] }
def k12m7 : Method := { name := "isLatin1", desc := "()Z", sig := { parameters := [], returnType := some .boolean }, accessFlags := 16, code := some k12c7 }
def k12c8 : Code := { maxStack := 2, maxLocals := 2, code := jdk_68_method_71_code, exceptionTable := #[], attributes := #[] }
def k12m8 : Method := { name := "inflateIfNeededFor", desc := "(Ljava/lang/String;)V", sig := { parameters := [(.object "java/lang/String")], returnType := none }, accessFlags := 2, code := some k12c8 }
def k12c9 : Code := { maxStack := 4, maxLocals := 3, code := jdk_68_method_73_code, exceptionTable := #[], attributes := #[] }
def k12m9 : Method := { name := "putStringAt", desc := "(ILjava/lang/String;)V", sig := { parameters := [.int, (.object "java/lang/String")], returnType := none }, accessFlags := 2, code := some k12c9 }
/-- java/lang/AbstractStringBuilder -/
def k12 : Class := { plain "java/lang/AbstractStringBuilder" (some 0) with
  accessFlags := 1056
  interfaces := #[11, 7]
  cf := some (fileOf pool12 10 #[] #[{ accessFlags := 0, nameIndex := 7, descriptorIndex := 8, attributes := #[] }, { accessFlags := 0, nameIndex := 7, descriptorIndex := 103, attributes := #[] }, { accessFlags := 1, nameIndex := 34, descriptorIndex := 35, attributes := #[] }, { accessFlags := 2, nameIndex := 102, descriptorIndex := 103, attributes := #[] }, { accessFlags := 2, nameIndex := 106, descriptorIndex := 107, attributes := #[] }, { accessFlags := 1, nameIndex := 45, descriptorIndex := 46, attributes := #[] }, { accessFlags := 16, nameIndex := 552, descriptorIndex := 403, attributes := #[] }, { accessFlags := 16, nameIndex := 85, descriptorIndex := 86, attributes := #[] }, { accessFlags := 2, nameIndex := 217, descriptorIndex := 69, attributes := #[] }, { accessFlags := 2, nameIndex := 210, descriptorIndex := 211, attributes := #[] }] 1056 4 #[444, 48] #[{ accessFlags := 0, nameIndex := 17, descriptorIndex := 14, attributes := #[] }, { accessFlags := 0, nameIndex := 24, descriptorIndex := 25, attributes := #[] }, { accessFlags := 0, nameIndex := 75, descriptorIndex := 21, attributes := #[] }, { accessFlags := 0, nameIndex := 81, descriptorIndex := 82, attributes := #[] }, { accessFlags := 26, nameIndex := 13, descriptorIndex := 14, attributes := #[] }])
  fields := #[{ name := "value", type := (.array .byte), accessFlags := 0, slot := 0, constantValue := 0 }, { name := "coder", type := .byte, accessFlags := 0, slot := 1, constantValue := 0 }, { name := "maybeLatin1", type := .boolean, accessFlags := 0, slot := 2, constantValue := 0 }, { name := "count", type := .int, accessFlags := 0, slot := 3, constantValue := 0 }, { name := "EMPTYVALUE", type := (.array .byte), accessFlags := 26, slot := 0, constantValue := 0 }]
  methods := #[k12m0, k12m1, k12m2, k12m3, k12m4, k12m5, k12m6, k12m7, k12m8, k12m9]
  instanceTypes := #[(.array .byte), .byte, .boolean, .int]
  staticTypes := #[(.array .byte)]
  resolved := Array.replicate 609 none
  statics := none }

def pool13 : Array CpInfo := pool [(1, .methodref 2 3), (0, .class_ 4), (0, .nameAndType 5 6), (0, u "java/lang/AbstractStringBuilder"), (0, u "<init>"), (0, u "(I)V"), (11, .class_ 20), (1, u "java/lang/String"), (3, .class_ 26), (1, u "java/lang/StringBuilder"), (0, u "append"), (0, u "(Ljava/lang/String;)Ljava/lang/StringBuilder;"), (0, .methodref 2 30), (0, .nameAndType 27 31), (0, u "(Ljava/lang/String;)Ljava/lang/AbstractStringBuilder;"), (105, .methodref 18 138), (0, .nameAndType 5 139), (0, u "(Ljava/lang/StringBuilder;)V"), (5, u "()V"), (10, u "()I"), (186, .methodref 2 344), (0, .nameAndType 345 156), (0, u "length"), (3, .class_ 350), (0, u "java/lang/Appendable"), (0, .class_ 352), (0, u "java/io/Serializable"), (0, .class_ 354), (0, u "java/lang/Comparable"), (0, .class_ 356), (0, u "java/lang/CharSequence"), (0, u "serialVersionUID"), (0, u "J"), (40, u "toString"), (0, u "()Ljava/lang/String;")] 21

def k13c0 : Code := { maxStack := 2, maxLocals := 1, code := jdk_67_method_1_code, exceptionTable := #[], attributes := #[] }
def k13m0 : Method := { name := "<init>", desc := "()V", sig := { parameters := [], returnType := none }, accessFlags := 1, code := some k13c0 }
def k13c1 : Code := { maxStack := 2, maxLocals := 2, code := jdk_67_method_7_code, exceptionTable := #[], attributes := #[] }
def k13m1 : Method := { name := "append", desc := "(Ljava/lang/String;)Ljava/lang/StringBuilder;", sig := { parameters := [(.object "java/lang/String")], returnType := some (.object "java/lang/StringBuilder") }, accessFlags := 1, code := some k13c1 }
def k13c2 : Code := { maxStack := 3, maxLocals := 1, code := jdk_67_method_42_code, exceptionTable := #[], attributes := #[] }
def k13m2 : Method := { name := "toString", desc := "()Ljava/lang/String;", sig := { parameters := [], returnType := some (.object "java/lang/String") }, accessFlags := 1, code := some k13c2 }
def k13c3 : Code := { maxStack := 1, maxLocals := 1, code := jdk_67_method_93_code, exceptionTable := #[], attributes := #[] }
def k13m3 : Method := { name := "length", desc := "()I", sig := { parameters := [], returnType := some .int }, accessFlags := 4161, code := some k13c3 }
/-- java/lang/StringBuilder -/
def k13 : Class := { plain "java/lang/StringBuilder" (some 12) with
  accessFlags := 49
  interfaces := #[11, 4, 3, 7]
  cf := some (fileOf pool13 24 #[] #[{ accessFlags := 1, nameIndex := 5, descriptorIndex := 145, attributes := #[] }, { accessFlags := 1, nameIndex := 27, descriptorIndex := 28, attributes := #[] }, { accessFlags := 1, nameIndex := 399, descriptorIndex := 400, attributes := #[] }, { accessFlags := 4161, nameIndex := 345, descriptorIndex := 156, attributes := #[] }] 49 2 #[349, 351, 353, 355] #[{ accessFlags := 24, nameIndex := 357, descriptorIndex := 358, attributes := #[] }])
  fields := #[{ name := "serialVersionUID", type := .long, accessFlags := 24, slot := 0, constantValue := 0 }]
  methods := #[k13m0, k13m1, k13m2, k13m3]
  instanceTypes := #[(.array .byte), .byte, .boolean, .int]
  staticTypes := #[.long]
  resolved := Array.replicate 422 none
  statics := none }

def pool14 : Array CpInfo := pool [(2, .class_ 4), (1, u "java/lang/Object"), (0, u "<init>"), (0, u "()V"), (1, .class_ 10), (1, u "java/lang/System"), (0, u "allowSecurityManager"), (0, u "I"), (16, u "cons"), (0, u "Ljava/io/Console;"), (77, .class_ 110), (1, u "java/lang/System$CallersHolder"), (43, u "initialErrStream"), (0, u "Ljava/io/PrintStream;"), (19, u "security"), (0, u "Ljava/lang/SecurityManager;"), (31, .class_ 209), (0, u "java/lang/System$1"), (7, u "props"), (0, u "Ljava/util/Properties;"), (2, u "lineSeparator"), (0, u "Ljava/lang/String;"), (96, .class_ 321), (1, u "java/lang/System$LoggerFinder"), (5, .class_ 328), (0, u "java/lang/System$Logger"), (67, u "err"), (2, u "out"), (91, u "notSupportedJnuEncoding"), (15, u "in"), (17, u "initialIn"), (0, u "Ljava/io/InputStream;"), (35, u "bootLayer"), (0, u "Ljava/lang/ModuleLayer;"), (99, .class_ 664), (0, u "java/lang/System$2"), (9, u "NEVER"), (2, u "MAYBE"), (49, u "arraycopy"), (0, u "(Ljava/lang/Object;ILjava/lang/Object;II)V"), (72, .class_ 802), (0, u "java/lang/System$Logger$Level")] 31

def k14m0 : Method := { name := "<init>", desc := "()V", sig := { parameters := [], returnType := none }, accessFlags := 2, code := none }
def k14m1 : Method := { name := "arraycopy", desc := "(Ljava/lang/Object;ILjava/lang/Object;II)V", sig := { parameters := [(.object "java/lang/Object"), .int, (.object "java/lang/Object"), .int, .int], returnType := none }, accessFlags := 265, code := none }
/-- java/lang/System -/
def k14 : Class := { plain "java/lang/System" (some 0) with
  accessFlags := 49
  interfaces := #[]
  cf := some (fileOf pool14 8 #[.nestMembers #[319, 327, 801, 108, 663, 208]] #[{ accessFlags := 2, nameIndex := 5, descriptorIndex := 6, attributes := #[] }, { accessFlags := 265, nameIndex := 727, descriptorIndex := 728, attributes := #[] }] 49 2 #[] #[{ accessFlags := 25, nameIndex := 507, descriptorIndex := 526, attributes := #[] }, { accessFlags := 25, nameIndex := 399, descriptorIndex := 155, attributes := #[] }, { accessFlags := 25, nameIndex := 396, descriptorIndex := 155, attributes := #[] }, { accessFlags := 10, nameIndex := 525, descriptorIndex := 526, attributes := #[] }, { accessFlags := 26, nameIndex := 674, descriptorIndex := 12, attributes := #[] }, { accessFlags := 26, nameIndex := 677, descriptorIndex := 12, attributes := #[] }, { accessFlags := 10, nameIndex := 11, descriptorIndex := 12, attributes := #[] }, { accessFlags := 74, nameIndex := 175, descriptorIndex := 176, attributes := #[] }, { accessFlags := 10, nameIndex := 491, descriptorIndex := 222, attributes := #[] }, { accessFlags := 74, nameIndex := 29, descriptorIndex := 30, attributes := #[] }, { accessFlags := 74, nameIndex := 154, descriptorIndex := 155, attributes := #[] }, { accessFlags := 10, nameIndex := 217, descriptorIndex := 218, attributes := #[] }, { accessFlags := 10, nameIndex := 221, descriptorIndex := 222, attributes := #[] }, { accessFlags := 8, nameIndex := 562, descriptorIndex := 563, attributes := #[] }])
  fields := #[{ name := "in", type := (.object "java/io/InputStream"), accessFlags := 25, slot := 0, constantValue := 0 }, { name := "out", type := (.object "java/io/PrintStream"), accessFlags := 25, slot := 1, constantValue := 0 }, { name := "err", type := (.object "java/io/PrintStream"), accessFlags := 25, slot := 2, constantValue := 0 }, { name := "initialIn", type := (.object "java/io/InputStream"), accessFlags := 10, slot := 3, constantValue := 0 }, { name := "NEVER", type := .int, accessFlags := 26, slot := 4, constantValue := 0 }, { name := "MAYBE", type := .int, accessFlags := 26, slot := 5, constantValue := 0 }, { name := "allowSecurityManager", type := .int, accessFlags := 10, slot := 6, constantValue := 0 }, { name := "security", type := (.object "java/lang/SecurityManager"), accessFlags := 74, slot := 7, constantValue := 0 }, { name := "notSupportedJnuEncoding", type := (.object "java/lang/String"), accessFlags := 10, slot := 8, constantValue := 0 }, { name := "cons", type := (.object "java/io/Console"), accessFlags := 74, slot := 9, constantValue := 0 }, { name := "initialErrStream", type := (.object "java/io/PrintStream"), accessFlags := 74, slot := 10, constantValue := 0 }, { name := "props", type := (.object "java/util/Properties"), accessFlags := 10, slot := 11, constantValue := 0 }, { name := "lineSeparator", type := (.object "java/lang/String"), accessFlags := 10, slot := 12, constantValue := 0 }, { name := "bootLayer", type := (.object "java/lang/ModuleLayer"), accessFlags := 8, slot := 13, constantValue := 0 }]
  methods := #[k14m0, k14m1]
  instanceTypes := #[]
  staticTypes := #[(.object "java/io/InputStream"), (.object "java/io/PrintStream"), (.object "java/io/PrintStream"), (.object "java/io/InputStream"), .int, .int, .int, (.object "java/lang/SecurityManager"), (.object "java/lang/String"), (.object "java/io/Console"), (.object "java/io/PrintStream"), (.object "java/util/Properties"), (.object "java/lang/String"), (.object "java/lang/ModuleLayer")]
  resolved := Array.replicate 834 none
  statics := none }

def pool15 : Array CpInfo := pool [(9, u "<init>"), (6, .class_ 18), (1, u "java/lang/Object"), (0, u "()V"), (1, .class_ 23), (1, u "jdk/internal/util/ArraysSupport"), (0, u "LOG2_ARRAY_LONG_INDEX_SCALE"), (0, u "I"), (2, u "U"), (0, u "Ljdk/internal/misc/Unsafe;"), (8, u "BIG_ENDIAN"), (0, u "Z"), (8, u "LOG2_BYTE_BIT_SIZE"), (4, u "LOG2_ARRAY_INT_INDEX_SCALE"), (54, u "JLA"), (0, u "Ljdk/internal/access/JavaLangAccess;"), (11, u "LOG2_ARRAY_BOOLEAN_INDEX_SCALE"), (9, u "LOG2_ARRAY_BYTE_INDEX_SCALE"), (5, u "LOG2_ARRAY_CHAR_INDEX_SCALE"), (5, u "LOG2_ARRAY_SHORT_INDEX_SCALE"), (18, u "LOG2_ARRAY_FLOAT_INDEX_SCALE"), (24, u "LOG2_ARRAY_DOUBLE_INDEX_SCALE"), (6, .methodref 195 196), (0, .class_ 197), (0, .nameAndType 198 199), (0, u "java/lang/Math"), (0, u "max"), (0, u "(II)I"), (0, .integer 2147483639), (76, u "T_BOOLEAN"), (2, u "T_CHAR"), (1, u "T_FLOAT"), (1, u "T_DOUBLE"), (1, u "T_BYTE"), (1, u "T_SHORT"), (1, u "T_INT"), (1, u "T_LONG"), (1, u "SOFT_MAX_ARRAY_LENGTH"), (56, u "newLength"), (0, u "(III)I")] 25

def k15m0 : Method := { name := "<init>", desc := "()V", sig := { parameters := [], returnType := none }, accessFlags := 2, code := none }
def k15c1 : Code := { maxStack := 3, maxLocals := 4, code := jdk_48_method_27_code, exceptionTable := #[], attributes := #[] }
def k15m1 : Method := { name := "newLength", desc := "(III)I", sig := { parameters := [.int, .int, .int], returnType := some .int }, accessFlags := 9, code := some k15c1 }
/-- jdk/internal/util/ArraysSupport -/
def k15 : Class := { plain "jdk/internal/util/ArraysSupport" (some 0) with
  accessFlags := 33
  interfaces := #[]
  cf := some (fileOf pool15 21 #[] #[{ accessFlags := 2, nameIndex := 9, descriptorIndex := 19, attributes := #[] }, { accessFlags := 9, nameIndex := 351, descriptorIndex := 352, attributes := #[] }] 33 16 #[] #[{ accessFlags := 24, nameIndex := 28, descriptorIndex := 29, attributes := #[] }, { accessFlags := 26, nameIndex := 38, descriptorIndex := 39, attributes := #[] }, { accessFlags := 25, nameIndex := 121, descriptorIndex := 25, attributes := #[] }, { accessFlags := 25, nameIndex := 131, descriptorIndex := 25, attributes := #[] }, { accessFlags := 25, nameIndex := 137, descriptorIndex := 25, attributes := #[] }, { accessFlags := 25, nameIndex := 143, descriptorIndex := 25, attributes := #[] }, { accessFlags := 25, nameIndex := 53, descriptorIndex := 25, attributes := #[] }, { accessFlags := 25, nameIndex := 24, descriptorIndex := 25, attributes := #[] }, { accessFlags := 25, nameIndex := 162, descriptorIndex := 25, attributes := #[] }, { accessFlags := 25, nameIndex := 187, descriptorIndex := 25, attributes := #[] }, { accessFlags := 26, nameIndex := 48, descriptorIndex := 25, attributes := #[] }, { accessFlags := 25, nameIndex := 277, descriptorIndex := 25, attributes := #[] }, { accessFlags := 25, nameIndex := 280, descriptorIndex := 25, attributes := #[] }, { accessFlags := 25, nameIndex := 282, descriptorIndex := 25, attributes := #[] }, { accessFlags := 25, nameIndex := 284, descriptorIndex := 25, attributes := #[] }, { accessFlags := 25, nameIndex := 286, descriptorIndex := 25, attributes := #[] }, { accessFlags := 25, nameIndex := 288, descriptorIndex := 25, attributes := #[] }, { accessFlags := 25, nameIndex := 290, descriptorIndex := 25, attributes := #[] }, { accessFlags := 25, nameIndex := 292, descriptorIndex := 25, attributes := #[] }, { accessFlags := 26, nameIndex := 108, descriptorIndex := 109, attributes := #[] }, { accessFlags := 25, nameIndex := 294, descriptorIndex := 25, attributes := #[] }])
  fields := #[{ name := "U", type := (.object "jdk/internal/misc/Unsafe"), accessFlags := 24, slot := 0, constantValue := 0 }, { name := "BIG_ENDIAN", type := .boolean, accessFlags := 26, slot := 1, constantValue := 0 }, { name := "LOG2_ARRAY_BOOLEAN_INDEX_SCALE", type := .int, accessFlags := 25, slot := 2, constantValue := 0 }, { name := "LOG2_ARRAY_BYTE_INDEX_SCALE", type := .int, accessFlags := 25, slot := 3, constantValue := 0 }, { name := "LOG2_ARRAY_CHAR_INDEX_SCALE", type := .int, accessFlags := 25, slot := 4, constantValue := 0 }, { name := "LOG2_ARRAY_SHORT_INDEX_SCALE", type := .int, accessFlags := 25, slot := 5, constantValue := 0 }, { name := "LOG2_ARRAY_INT_INDEX_SCALE", type := .int, accessFlags := 25, slot := 6, constantValue := 0 }, { name := "LOG2_ARRAY_LONG_INDEX_SCALE", type := .int, accessFlags := 25, slot := 7, constantValue := 0 }, { name := "LOG2_ARRAY_FLOAT_INDEX_SCALE", type := .int, accessFlags := 25, slot := 8, constantValue := 0 }, { name := "LOG2_ARRAY_DOUBLE_INDEX_SCALE", type := .int, accessFlags := 25, slot := 9, constantValue := 0 }, { name := "LOG2_BYTE_BIT_SIZE", type := .int, accessFlags := 26, slot := 10, constantValue := 0 }, { name := "T_BOOLEAN", type := .int, accessFlags := 25, slot := 11, constantValue := 0 }, { name := "T_CHAR", type := .int, accessFlags := 25, slot := 12, constantValue := 0 }, { name := "T_FLOAT", type := .int, accessFlags := 25, slot := 13, constantValue := 0 }, { name := "T_DOUBLE", type := .int, accessFlags := 25, slot := 14, constantValue := 0 }, { name := "T_BYTE", type := .int, accessFlags := 25, slot := 15, constantValue := 0 }, { name := "T_SHORT", type := .int, accessFlags := 25, slot := 16, constantValue := 0 }, { name := "T_INT", type := .int, accessFlags := 25, slot := 17, constantValue := 0 }, { name := "T_LONG", type := .int, accessFlags := 25, slot := 18, constantValue := 0 }, { name := "JLA", type := (.object "jdk/internal/access/JavaLangAccess"), accessFlags := 26, slot := 19, constantValue := 0 }, { name := "SOFT_MAX_ARRAY_LENGTH", type := .int, accessFlags := 25, slot := 20, constantValue := 0 }]
  methods := #[k15m0, k15m1]
  instanceTypes := #[]
  staticTypes := #[(.object "jdk/internal/misc/Unsafe"), .boolean, .int, .int, .int, .int, .int, .int, .int, .int, .int, .int, .int, .int, .int, .int, .int, .int, .int, (.object "jdk/internal/access/JavaLangAccess"), .int]
  resolved := Array.replicate 378 none
  statics := none }

def pool16 : Array CpInfo := pool [(1, .class_ 2), (0, u "java/lang/Math"), (1, .class_ 6), (1, u "java/lang/Object"), (0, u "<init>"), (0, u "()V"), (89, .class_ 100), (1, u "java/lang/Math$RandomNumberGeneratorHolder"), (71, u "negativeZeroFloatBits"), (0, u "J"), (2, u "negativeZeroDoubleBits"), (21, u "max"), (2, u "min"), (43, u "$assertionsDisabled"), (0, u "Z"), (88, u "(II)I"), (2, u "twoToTheDoubleScaleDown"), (0, u "D"), (4, u "twoToTheDoubleScaleUp"), (9, u "E"), (3, u "PI"), (2, u "TAU"), (2, u "DEGREES_TO_RADIANS"), (0, u "RADIANS_TO_DEGREES")] 94

def k16m0 : Method := { name := "<init>", desc := "()V", sig := { parameters := [], returnType := none }, accessFlags := 2, code := none }
def k16c1 : Code := { maxStack := 2, maxLocals := 2, code := jdk_29_method_65_code, exceptionTable := #[], attributes := #[] }
def k16m1 : Method := { name := "max", desc := "(II)I", sig := { parameters := [.int, .int], returnType := some .int }, accessFlags := 9, code := some k16c1 }
def k16c2 : Code := { maxStack := 2, maxLocals := 2, code := jdk_29_method_69_code, exceptionTable := #[], attributes := #[] }
def k16m2 : Method := { name := "min", desc := "(II)I", sig := { parameters := [.int, .int], returnType := some .int }, accessFlags := 9, code := some k16c2 }
/-- java/lang/Math -/
def k16 : Class := { plain "java/lang/Math" (some 0) with
  accessFlags := 49
  interfaces := #[]
  cf := some (fileOf pool16 1 #[.nestMembers #[98]] #[{ accessFlags := 2, nameIndex := 7, descriptorIndex := 8, attributes := #[] }, { accessFlags := 9, nameIndex := 198, descriptorIndex := 335, attributes := #[] }, { accessFlags := 9, nameIndex := 201, descriptorIndex := 335, attributes := #[] }] 49 4 #[] #[{ accessFlags := 25, nameIndex := 354, descriptorIndex := 339, attributes := #[] }, { accessFlags := 25, nameIndex := 358, descriptorIndex := 339, attributes := #[] }, { accessFlags := 25, nameIndex := 361, descriptorIndex := 339, attributes := #[] }, { accessFlags := 26, nameIndex := 364, descriptorIndex := 339, attributes := #[] }, { accessFlags := 26, nameIndex := 365, descriptorIndex := 339, attributes := #[] }, { accessFlags := 26, nameIndex := 172, descriptorIndex := 173, attributes := #[] }, { accessFlags := 26, nameIndex := 176, descriptorIndex := 173, attributes := #[] }, { accessFlags := 8, nameIndex := 344, descriptorIndex := 339, attributes := #[] }, { accessFlags := 8, nameIndex := 338, descriptorIndex := 339, attributes := #[] }, { accessFlags := 4120, nameIndex := 245, descriptorIndex := 246, attributes := #[] }])
  fields := #[{ name := "E", type := .double, accessFlags := 25, slot := 0, constantValue := 0 }, { name := "PI", type := .double, accessFlags := 25, slot := 1, constantValue := 0 }, { name := "TAU", type := .double, accessFlags := 25, slot := 2, constantValue := 0 }, { name := "DEGREES_TO_RADIANS", type := .double, accessFlags := 26, slot := 3, constantValue := 0 }, { name := "RADIANS_TO_DEGREES", type := .double, accessFlags := 26, slot := 4, constantValue := 0 }, { name := "negativeZeroFloatBits", type := .long, accessFlags := 26, slot := 5, constantValue := 0 }, { name := "negativeZeroDoubleBits", type := .long, accessFlags := 26, slot := 6, constantValue := 0 }, { name := "twoToTheDoubleScaleUp", type := .double, accessFlags := 8, slot := 7, constantValue := 0 }, { name := "twoToTheDoubleScaleDown", type := .double, accessFlags := 8, slot := 8, constantValue := 0 }, { name := "$assertionsDisabled", type := .boolean, accessFlags := 4120, slot := 9, constantValue := 0 }]
  methods := #[k16m0, k16m1, k16m2]
  instanceTypes := #[]
  staticTypes := #[.double, .double, .double, .double, .double, .long, .long, .double, .double, .boolean]
  resolved := Array.replicate 460 none
  statics := none }

def pool17 : Array CpInfo := pool [(2, .class_ 4), (1, u "java/lang/Object"), (0, u "<init>"), (0, u "()V"), (7, .class_ 16), (1, u "java/util/Arrays"), (57, .class_ 76), (1, u "java/util/Arrays$NaturalOrder"), (32, u "()Ljava/lang/Object;"), (3, .class_ 115), (1, u "java/util/Arrays$LegacyMergeSort"), (1, u "Z"), (10, .nameAndType 129 109), (0, u "clone"), (9, u "copyOfRange"), (10, .methodref 151 152), (0, .class_ 153), (0, .nameAndType 154 155), (0, u "java/lang/System"), (0, u "arraycopy"), (0, u "(Ljava/lang/Object;ILjava/lang/Object;II)V"), (146, u "copyOf"), (1, .methodref 305 306), (0, .class_ 307), (0, .nameAndType 308 309), (0, u "java/lang/Math"), (0, u "min"), (0, u "(II)I"), (0, .methodref 311 128), (0, .class_ 312), (0, u "[B"), (26, .methodref 14 340), (0, .nameAndType 341 342), (0, u "copyOfRangeByte"), (0, u "([BII)[B"), (0, .methodref 14 344), (0, .nameAndType 345 346), (0, u "checkLength"), (0, u "(II)V"), (28, .class_ 376), (0, u "java/util/Arrays$ArrayList"), (68, u "$assertionsDisabled"), (269, u "MIN_ARRAY_SORT_GRAN"), (0, u "I"), (2, u "INSERTIONSORT_THRESHOLD"), (149, u "([BI)[B"), (105, .class_ 976), (0, u "java/util/Arrays$ArrayItr")] 52

def k17m0 : Method := { name := "<init>", desc := "()V", sig := { parameters := [], returnType := none }, accessFlags := 2, code := none }
def k17c1 : Code := { maxStack := 6, maxLocals := 3, code := jdk_65_method_121_code, exceptionTable := #[], attributes := #[] }
def k17m1 : Method := { name := "copyOf", desc := "([BI)[B", sig := { parameters := [(.array .byte), .int], returnType := some (.array .byte) }, accessFlags := 9, code := some k17c1 }
def k17c2 : Code := { maxStack := 4, maxLocals := 2, code := jdk_65_method_131_code, exceptionTable := #[], attributes := #[] }
def k17m2 : Method := { name := "checkLength", desc := "(II)V", sig := { parameters := [.int, .int], returnType := none }, accessFlags := 10, code := some k17c2 }
def k17c3 : Code := { maxStack := 3, maxLocals := 3, code := jdk_65_method_132_code, exceptionTable := #[], attributes := #[] }
def k17m3 : Method := { name := "copyOfRange", desc := "([BII)[B", sig := { parameters := [(.array .byte), .int, .int], returnType := some (.array .byte) }, accessFlags := 9, code := some k17c3 }
def k17c4 : Code := { maxStack := 6, maxLocals := 5, code := jdk_65_method_133_code, exceptionTable := #[], attributes := #[] }
def k17m4 : Method := { name := "copyOfRangeByte", desc := "([BII)[B", sig := { parameters := [(.array .byte), .int, .int], returnType := some (.array .byte) }, accessFlags := 10, code := some k17c4 }
/-- java/util/Arrays -/
def k17 : Class := { plain "java/util/Arrays" (some 0) with
  accessFlags := 49
  interfaces := #[]
  cf := some (fileOf pool17 14 #[.nestMembers #[975, 375, 113, 74]] #[{ accessFlags := 2, nameIndex := 5, descriptorIndex := 6, attributes := #[] }, { accessFlags := 9, nameIndex := 302, descriptorIndex := 869, attributes := #[] }, { accessFlags := 10, nameIndex := 345, descriptorIndex := 346, attributes := #[] }, { accessFlags := 9, nameIndex := 139, descriptorIndex := 342, attributes := #[] }, { accessFlags := 10, nameIndex := 341, descriptorIndex := 342, attributes := #[] }] 49 2 #[] #[{ accessFlags := 26, nameIndex := 715, descriptorIndex := 716, attributes := #[] }, { accessFlags := 26, nameIndex := 719, descriptorIndex := 716, attributes := #[] }, { accessFlags := 4120, nameIndex := 445, descriptorIndex := 117, attributes := #[] }])
  fields := #[{ name := "MIN_ARRAY_SORT_GRAN", type := .int, accessFlags := 26, slot := 0, constantValue := 0 }, { name := "INSERTIONSORT_THRESHOLD", type := .int, accessFlags := 26, slot := 1, constantValue := 0 }, { name := "$assertionsDisabled", type := .boolean, accessFlags := 4120, slot := 2, constantValue := 0 }]
  methods := #[k17m0, k17m1, k17m2, k17m3, k17m4]
  instanceTypes := #[]
  staticTypes := #[.int, .int, .boolean]
  resolved := Array.replicate 1029 none
  statics := none }

def pool18 : Array CpInfo := pool [(1, .class_ 2), (0, u "java/lang/String"), (1, .class_ 6), (1, u "java/lang/Object"), (0, u "<init>"), (0, u "()V"), (0, .methodref 1 10), (0, .nameAndType 11 12), (0, u "checkIndex"), (0, u "(II)V"), (1, .class_ 16), (1, u "java/lang/StringLatin1"), (36, u "([BI)C"), (67, u "$assertionsDisabled"), (0, u "Z"), (98, .class_ 223), (1, u "java/lang/StringLatin1$LinesSpliterator"), (28, u "charAt"), (137, .class_ 391), (0, u "java/lang/StringLatin1$CharsSpliterator")] 3

def k18m0 : Method := { name := "<init>", desc := "()V", sig := { parameters := [], returnType := none }, accessFlags := 0, code := none }
def k18c1 : Code := { maxStack := 2, maxLocals := 2, code := jdk_43_method_2_code, exceptionTable := #[], attributes := #[] }
def k18m1 : Method := { name := "charAt", desc := "([BI)C", sig := { parameters := [(.array .byte), .int], returnType := some .char }, accessFlags := 9, code := some k18c1 }
/-- java/lang/StringLatin1 -/
def k18 : Class := { plain "java/lang/StringLatin1" (some 0) with
  accessFlags := 48
  interfaces := #[]
  cf := some (fileOf pool18 14 #[.nestMembers #[390, 221]] #[{ accessFlags := 0, nameIndex := 7, descriptorIndex := 8, attributes := #[] }, { accessFlags := 9, nameIndex := 252, descriptorIndex := 53, attributes := #[] }] 48 4 #[] #[{ accessFlags := 4120, nameIndex := 121, descriptorIndex := 122, attributes := #[] }])
  fields := #[{ name := "$assertionsDisabled", type := .boolean, accessFlags := 4120, slot := 0, constantValue := 0 }]
  methods := #[k18m0, k18m1]
  instanceTypes := #[]
  staticTypes := #[.boolean]
  resolved := Array.replicate 395 none
  statics := none }

def pool19 : Array CpInfo := pool [(2, .class_ 4), (1, u "java/lang/Object"), (0, u "<init>"), (0, u "()V"), (17, .class_ 26), (1, u "jdk/internal/util/Preconditions"), (6, u "checkIndex"), (21, .class_ 56), (0, u "jdk/internal/util/Preconditions$4"), (57, .class_ 115), (0, u "jdk/internal/util/Preconditions$1"), (7, u "SIOOBE_FORMATTER"), (0, u "Ljava/util/function/BiFunction;"), (0, .class_ 126), (0, u "jdk/internal/util/Preconditions$2"), (3, u "AIOOBE_FORMATTER"), (0, .class_ 132), (0, u "jdk/internal/util/Preconditions$3"), (3, u "IOOBE_FORMATTER"), (41, u "(IILjava/util/function/BiFunction;)I")] 15

def k19m0 : Method := { name := "<init>", desc := "()V", sig := { parameters := [], returnType := none }, accessFlags := 1, code := none }
def k19c1 : Code := { maxStack := 3, maxLocals := 3, code := jdk_41_method_11_code, exceptionTable := #[], attributes := #[] }
def k19m1 : Method := { name := "checkIndex", desc := "(IILjava/util/function/BiFunction;)I", sig := { parameters := [.int, .int, (.object "java/util/function/BiFunction")], returnType := some .int }, accessFlags := 9, code := some k19c1 }
/-- jdk/internal/util/Preconditions -/
def k19 : Class := { plain "jdk/internal/util/Preconditions" (some 0) with
  accessFlags := 33
  interfaces := #[]
  cf := some (fileOf pool19 24 #[.nestMembers #[55, 131, 125, 114]] #[{ accessFlags := 1, nameIndex := 5, descriptorIndex := 6, attributes := #[] }, { accessFlags := 9, nameIndex := 33, descriptorIndex := 178, attributes := #[] }] 33 2 #[] #[{ accessFlags := 25, nameIndex := 123, descriptorIndex := 124, attributes := #[] }, { accessFlags := 25, nameIndex := 130, descriptorIndex := 124, attributes := #[] }, { accessFlags := 25, nameIndex := 136, descriptorIndex := 124, attributes := #[] }])
  fields := #[{ name := "SIOOBE_FORMATTER", type := (.object "java/util/function/BiFunction"), accessFlags := 25, slot := 0, constantValue := 0 }, { name := "AIOOBE_FORMATTER", type := (.object "java/util/function/BiFunction"), accessFlags := 25, slot := 1, constantValue := 0 }, { name := "IOOBE_FORMATTER", type := (.object "java/util/function/BiFunction"), accessFlags := 25, slot := 2, constantValue := 0 }]
  methods := #[k19m0, k19m1]
  instanceTypes := #[]
  staticTypes := #[(.object "java/util/function/BiFunction"), (.object "java/util/function/BiFunction"), (.object "java/util/function/BiFunction")]
  resolved := Array.replicate 194 none
  statics := some 2 }

def pool20 : Array CpInfo := pool [(1, .class_ 2), (0, u "java/lang/Cloneable"), (0, .class_ 4), (0, u "java/lang/Object")] 2

/-- java/lang/Cloneable -/
def k20 : Class := { plain "java/lang/Cloneable" (some 0) with
  accessFlags := 1537
  interfaces := #[]
  cf := some (fileOf pool20 1 #[] #[] 1537 3 #[] #[])
  fields := #[]
  methods := #[]
  instanceTypes := #[]
  staticTypes := #[]
  resolved := Array.replicate 7 none
  statics := none }

/-- the primitive byte -/
def k21 : Class := { plain "byte" none with kind := .primitive 'B', accessFlags := 0x411 }
/-- [B -/
def k22 : Class := { plain "[B" (some 0) with kind := .array 21 .byte, interfaces := #[20, 4], accessFlags := 1041 }

/-- the primitive char -/
def k23 : Class := { plain "char" none with kind := .primitive 'C', accessFlags := 0x411 }
/-- [C -/
def k24 : Class := { plain "[C" (some 0) with kind := .array 23 .char, interfaces := #[20, 4], accessFlags := 1041 }

/-- the primitive int -/
def k25 : Class := { plain "int" none with kind := .primitive 'I', accessFlags := 0x411 }
/-- [I -/
def k26 : Class := { plain "[I" (some 0) with kind := .array 25 .int, interfaces := #[20, 4], accessFlags := 1041 }

/-- [Lcom/example/librowmap/librowmap/sql/Dialect; -/
def k27 : Class := { plain "[Lcom/example/librowmap/librowmap/sql/Dialect;" (some 0) with kind := .array 6 (.object "com/example/librowmap/librowmap/sql/Dialect"), interfaces := #[20, 4], accessFlags := 1041 }

def heap : Heap := #[{ cls := 6, slots := #[.ref 7, .ref 8, .ref 9, .ref 10, .null, .null, .null, .null, .null], vm := .statics 6 },
  { cls := 9, slots := #[.long 0, .int 1, .null, .int 0, .null, .int 0, .int 0], vm := .statics 9 },
  { cls := 19, slots := #[.null, .null, .null], vm := .statics 19 },
  { cls := 22, slots := #[.int 116, .int 101, .int 120, .int 116], vm := .none },
  { cls := 22, slots := #[.int 86, .int 65, .int 82, .int 67, .int 72, .int 65, .int 82], vm := .none },
  { cls := 9, slots := #[.ref 3, .int 0, .int 0, .int 0], vm := .none },
  { cls := 9, slots := #[.ref 4, .int 0, .int 0, .int 0], vm := .none },
  { cls := 6, slots := #[.null, .int 0, .int 0, .null, .int 0, .int 0, .null, .null, .null, .null, .null, .null, .null, .ref 5, .null, .null, .null, .null], vm := .none },
  { cls := 6, slots := #[.null, .int 1, .int 0, .null, .int 0, .int 0, .null, .null, .null, .null, .null, .null, .null, .null, .null, .null, .null, .null], vm := .none },
  { cls := 6, slots := #[.null, .int 2, .int 0, .null, .int 0, .int 0, .null, .null, .null, .null, .null, .null, .null, .ref 6, .null, .null, .null, .null], vm := .none },
  { cls := 6, slots := #[.null, .int 3, .int 0, .null, .int 0, .int 0, .null, .null, .null, .null, .null, .null, .null, .null, .null, .null, .null, .null], vm := .none }]
def classes : Array Class := #[k0, k1, k2, k3, k4, k5, k6, k7, k8, k9, k10, k11, k12, k13, k14, k15, k16, k17, k18, k19, k20, k21, k22, k23, k24, k25, k26, k27]
def interned : List (Array UInt16 × Addr) := []
def slotsUsed : Nat := 110
def theMethod : MethodId := ⟨1, 2⟩
def args0 : Array Value := #[.int 1, .int 2, .int 65, .int 66, .int 67]
def aboutOver (below : List Frame) : State where
  vm := { classes := classes, interned := interned.toArray }
  heap := heap
  slotsUsed := slotsUsed
  threads := #[{ frames := .invoking theMethod args0 :: below }]
def below0 : List Frame := [.native { method := ⟨0, 0⟩, args := #[] }]
def about1 : State := aboutOver below0
def p0 : Program := .bare "" "" ""
def e0 : Env := launch0.env 0 0 0
theorem w_frames : about1.frames = Frame.invoking theMethod args0 :: below0 := rfl
set_option maxRecDepth 65536 in
theorem w_args : argsFit about1.vm theMethod args0 = true := by decide +kernel
set_option maxRecDepth 65536 in
theorem w_heap : heapFits about1 = true := by decide +kernel
set_option maxRecDepth 65536 in
theorem w_runnable : about1.curStatus? = some .runnable := by decide +kernel
set_option maxRecDepth 65536 in
theorem w_alone : about1.alone = true := by decide +kernel
set_option maxRecDepth 65536 in
theorem w_named : about1.methodNamed? x = some theMethod := by decide +kernel
set_option maxRecDepth 65536 in
theorem w_hears : about1.hears theMethod below0 = true := by decide +kernel
set_option maxRecDepth 65536 in
theorem w_ripe : about1.ripe theMethod args0 below0 = true := by decide +kernel
theorem w_running : about1.status = .running := rfl
set_option maxRecDepth 65536 in
theorem w_room : about1.hasRoom e0.platform room_1 = true :=
  launch0.hasRoom_least _ room_1 (by decide +kernel) (by decide +kernel) (by decide +kernel) (by decide +kernel) (by decide +kernel) (by decide +kernel)
theorem allAtoms_all (ts : List Jvm.Cond) (a : Array Jvm.Value) (st : Jvm.State) : (allAtoms ts).before a st = ts.all (fun c => c.before a st) := by
  induction ts with
  | nil => rfl
  | cons c t ih =>
    show (Jvm.Cond.and c (allAtoms t)).before a st = _
    rw [Jvm.Cond.before_and, ih, List.all_cons]
def words1 : List Jvm.Cond := Jvm.Cond.code x code maxLocals ret :: tables_1
/-- a 'code' word, met by the world's own term for the bytes: nothing is compared byte by byte -/
theorem code_word {y : MethodName} {bytes : ByteArray} {mx : Nat} {rt : Option FieldType} {a : Array Value} {s : State} {m : MethodId} {meth : Method} {c : Code} (h1 : s.methodNamed? y = some m) (h2 : s.vm.method? m = some meth) (h3 : meth.code = some c) (h4 : c.code = bytes)
    (h5 : (c.maxLocals == mx && c.exceptionTable.isEmpty && decide (c.maxStack ≤ mostOperands) && decide (meth.sig.returnType = rt) && !meth.locks && decide (parseMethodDescriptor y.desc = some meth.sig)) = true) : (Jvm.Cond.code y bytes mx rt).before a s = true := by
  simp only [Bool.and_eq_true, beq_iff_eq, Bool.not_eq_true', decide_eq_true_eq] at h5
  obtain ⟨⟨⟨⟨⟨g1, g2⟩, g3⟩, g4⟩, g5⟩, g6⟩ := h5
  simp [Cond.before, Cond.holds, Cond.value, h1, h2, h3, h4, g1, g2, g3, g4, g5, g6]
def isCode : Jvm.Cond → Bool
  | .code _ _ _ _ => true
  | _ => false
theorem all_split {L : List Jvm.Cond} {P : Jvm.Cond → Bool} (h1 : L.all (fun c => isCode c || P c) = true) (h2 : ∀ c ∈ L.filter isCode, P c = true) : L.all P = true := by
  refine List.all_eq_true.mpr fun c hc => ?_
  have h := List.all_eq_true.mp h1 c hc
  rcases Bool.eq_false_or_eq_true (isCode c) with hi | hi
  · exact h2 c (List.mem_filter.mpr ⟨hc, hi⟩)
  · simpa [hi] using h
set_option maxRecDepth 65536 in
theorem w_c0 : (Jvm.Cond.code x code maxLocals ret).before args0 about1 = true := code_word (m := ⟨1, 2⟩) (meth := k1m2) (c := k1c2) (by decide +kernel) rfl rfl rfl (by decide +kernel)
set_option maxRecDepth 65536 in
theorem w_c1 : (Jvm.Cond.code ({ cls := "java/lang/String", name := "<init>", desc := "([C)V" } : Jvm.MethodName) jdk_42_method_3_code (2 : Nat) (Option.none : Option Jvm.ClassFile.FieldType)).before args0 about1 = true := code_word (m := ⟨9, 1⟩) (meth := k9m1) (c := k9c1) (by decide +kernel) rfl rfl rfl (by decide +kernel)
set_option maxRecDepth 65536 in
theorem w_c2 : (Jvm.Cond.code ({ cls := "java/lang/String", name := "<init>", desc := "([CIILjava/lang/Void;)V" } : Jvm.MethodName) jdk_42_method_149_code (6 : Nat) (Option.none : Option Jvm.ClassFile.FieldType)).before args0 about1 = true := code_word (m := ⟨9, 7⟩) (meth := k9m7) (c := k9c7) (by decide +kernel) rfl rfl rfl (by decide +kernel)
set_option maxRecDepth 65536 in
theorem w_c3 : (Jvm.Cond.code ({ cls := "java/lang/Object", name := "<init>", desc := "()V" } : Jvm.MethodName) object_method_1_code (1 : Nat) (Option.none : Option Jvm.ClassFile.FieldType)).before args0 about1 = true := code_word (m := ⟨0, 0⟩) (meth := k0m0) (c := k0c0) (by decide +kernel) rfl rfl rfl (by decide +kernel)
set_option maxRecDepth 65536 in
theorem w_c4 : (Jvm.Cond.code ({ cls := "java/lang/StringUTF16", name := "compress", desc := "([CII)[B" } : Jvm.MethodName) jdk_52_method_16_code (6 : Nat) (Option.some (Jvm.ClassFile.FieldType.array Jvm.ClassFile.FieldType.byte))).before args0 about1 = true := code_word (m := ⟨10, 2⟩) (meth := k10m2) (c := k10c2) (by decide +kernel) rfl rfl rfl (by decide +kernel)
set_option maxRecDepth 65536 in
theorem w_c5 : (Jvm.Cond.code ({ cls := "java/lang/StringUTF16", name := "compress", desc := "([CI[BII)I" } : Jvm.MethodName) jdk_52_method_21_code (7 : Nat) (Option.some Jvm.ClassFile.FieldType.int)).before args0 about1 = true := code_word (m := ⟨10, 3⟩) (meth := k10m3) (c := k10c3) (by decide +kernel) rfl rfl rfl (by decide +kernel)
set_option maxRecDepth 65536 in
theorem w_c6 : (Jvm.Cond.code ({ cls := "java/lang/StringUTF16", name := "coderFromArrayLen", desc := "([BI)B" } : Jvm.MethodName) jdk_52_method_15_code (2 : Nat) (Option.some Jvm.ClassFile.FieldType.byte)).before args0 about1 = true := code_word (m := ⟨10, 1⟩) (meth := k10m1) (c := k10c1) (by decide +kernel) rfl rfl rfl (by decide +kernel)
set_option maxRecDepth 65536 in
theorem w_c7 : (Jvm.Cond.code ({ cls := "com/example/librowmap/librowmap/sql/Dialect", name := "textOf", desc := "(Ljava/lang/String;)Ljava/lang/String;" } : Jvm.MethodName) prog_92_method_16_code (3 : Nat) (Option.some (Jvm.ClassFile.FieldType.object "java/lang/String"))).before args0 about1 = true := code_word (m := ⟨6, 0⟩) (meth := k6m0) (c := k6c0) (by decide +kernel) rfl rfl rfl (by decide +kernel)
set_option maxRecDepth 65536 in
theorem w_c8 : (Jvm.Cond.code ({ cls := "java/lang/StringBuilder", name := "<init>", desc := "()V" } : Jvm.MethodName) jdk_67_method_1_code (1 : Nat) (Option.none : Option Jvm.ClassFile.FieldType)).before args0 about1 = true := code_word (m := ⟨13, 0⟩) (meth := k13m0) (c := k13c0) (by decide +kernel) rfl rfl rfl (by decide +kernel)
set_option maxRecDepth 65536 in
theorem w_c9 : (Jvm.Cond.code ({ cls := "java/lang/AbstractStringBuilder", name := "<init>", desc := "(I)V" } : Jvm.MethodName) jdk_68_method_2_code (2 : Nat) (Option.none : Option Jvm.ClassFile.FieldType)).before args0 about1 = true := code_word (m := ⟨12, 1⟩) (meth := k12m1) (c := k12c1) (by decide +kernel) rfl rfl rfl (by decide +kernel)
set_option maxRecDepth 65536 in
theorem w_c10 : (Jvm.Cond.code ({ cls := "java/lang/StringBuilder", name := "append", desc := "(Ljava/lang/String;)Ljava/lang/StringBuilder;" } : Jvm.MethodName) jdk_67_method_7_code (2 : Nat) (Option.some (Jvm.ClassFile.FieldType.object "java/lang/StringBuilder"))).before args0 about1 = true := code_word (m := ⟨13, 1⟩) (meth := k13m1) (c := k13c1) (by decide +kernel) rfl rfl rfl (by decide +kernel)
set_option maxRecDepth 65536 in
theorem w_c11 : (Jvm.Cond.code ({ cls := "java/lang/AbstractStringBuilder", name := "append", desc := "(Ljava/lang/String;)Ljava/lang/AbstractStringBuilder;" } : Jvm.MethodName) jdk_68_method_22_code (3 : Nat) (Option.some (Jvm.ClassFile.FieldType.object "java/lang/AbstractStringBuilder"))).before args0 about1 = true := code_word (m := ⟨12, 5⟩) (meth := k12m5) (c := k12c5) (by decide +kernel) rfl rfl rfl (by decide +kernel)
set_option maxRecDepth 65536 in
theorem w_c12 : (Jvm.Cond.code ({ cls := "java/lang/String", name := "length", desc := "()I" } : Jvm.MethodName) jdk_42_method_54_code (1 : Nat) (Option.some Jvm.ClassFile.FieldType.int)).before args0 about1 = true := code_word (m := ⟨9, 3⟩) (meth := k9m3) (c := k9c3) (by decide +kernel) rfl rfl rfl (by decide +kernel)
set_option maxRecDepth 65536 in
theorem w_c13 : (Jvm.Cond.code ({ cls := "java/lang/String", name := "coder", desc := "()B" } : Jvm.MethodName) jdk_42_method_152_code (1 : Nat) (Option.some Jvm.ClassFile.FieldType.byte)).before args0 about1 = true := code_word (m := ⟨9, 9⟩) (meth := k9m9) (c := k9c9) (by decide +kernel) rfl rfl rfl (by decide +kernel)
set_option maxRecDepth 65536 in
theorem w_c14 : (Jvm.Cond.code ({ cls := "java/lang/AbstractStringBuilder", name := "ensureCapacityInternal", desc := "(I)V" } : Jvm.MethodName) jdk_68_method_9_code (3 : Nat) (Option.none : Option Jvm.ClassFile.FieldType)).before args0 about1 = true := code_word (m := ⟨12, 3⟩) (meth := k12m3) (c := k12c3) (by decide +kernel) rfl rfl rfl (by decide +kernel)
set_option maxRecDepth 65536 in
theorem w_c15 : (Jvm.Cond.code ({ cls := "java/lang/AbstractStringBuilder", name := "putStringAt", desc := "(ILjava/lang/String;)V" } : Jvm.MethodName) jdk_68_method_73_code (3 : Nat) (Option.none : Option Jvm.ClassFile.FieldType)).before args0 about1 = true := code_word (m := ⟨12, 9⟩) (meth := k12m9) (c := k12c9) (by decide +kernel) rfl rfl rfl (by decide +kernel)
set_option maxRecDepth 65536 in
theorem w_c16 : (Jvm.Cond.code ({ cls := "java/lang/AbstractStringBuilder", name := "inflateIfNeededFor", desc := "(Ljava/lang/String;)V" } : Jvm.MethodName) jdk_68_method_71_code (2 : Nat) (Option.none : Option Jvm.ClassFile.FieldType)).before args0 about1 = true := code_word (m := ⟨12, 8⟩) (meth := k12m8) (c := k12c8) (by decide +kernel) rfl rfl rfl (by decide +kernel)
set_option maxRecDepth 65536 in
theorem w_c17 : (Jvm.Cond.code ({ cls := "java/lang/String", name := "getBytes", desc := "([BIB)V" } : Jvm.MethodName) jdk_42_method_147_code (4 : Nat) (Option.none : Option Jvm.ClassFile.FieldType)).before args0 about1 = true := code_word (m := ⟨9, 6⟩) (meth := k9m6) (c := k9c6) (by decide +kernel) rfl rfl rfl (by decide +kernel)
set_option maxRecDepth 65536 in
theorem w_c18 : (Jvm.Cond.code ({ cls := "java/lang/AbstractStringBuilder", name := "newCapacity", desc := "(I)I" } : Jvm.MethodName) jdk_68_method_10_code (6 : Nat) (Option.some Jvm.ClassFile.FieldType.int)).before args0 about1 = true := code_word (m := ⟨12, 4⟩) (meth := k12m4) (c := k12c4) (by decide +kernel) rfl rfl rfl (by decide +kernel)
set_option maxRecDepth 65536 in
theorem w_c19 : (Jvm.Cond.code ({ cls := "jdk/internal/util/ArraysSupport", name := "newLength", desc := "(III)I" } : Jvm.MethodName) jdk_48_method_27_code (4 : Nat) (Option.some Jvm.ClassFile.FieldType.int)).before args0 about1 = true := code_word (m := ⟨15, 1⟩) (meth := k15m1) (c := k15c1) (by decide +kernel) rfl rfl rfl (by decide +kernel)
set_option maxRecDepth 65536 in
theorem w_c20 : (Jvm.Cond.code ({ cls := "java/lang/Math", name := "max", desc := "(II)I" } : Jvm.MethodName) jdk_29_method_65_code (2 : Nat) (Option.some Jvm.ClassFile.FieldType.int)).before args0 about1 = true := code_word (m := ⟨16, 1⟩) (meth := k16m1) (c := k16c1) (by decide +kernel) rfl rfl rfl (by decide +kernel)
set_option maxRecDepth 65536 in
theorem w_c21 : (Jvm.Cond.code ({ cls := "java/util/Arrays", name := "copyOf", desc := "([BI)[B" } : Jvm.MethodName) jdk_65_method_121_code (3 : Nat) (Option.some (Jvm.ClassFile.FieldType.array Jvm.ClassFile.FieldType.byte))).before args0 about1 = true := code_word (m := ⟨17, 1⟩) (meth := k17m1) (c := k17c1) (by decide +kernel) rfl rfl rfl (by decide +kernel)
set_option maxRecDepth 65536 in
theorem w_c22 : (Jvm.Cond.code ({ cls := "java/lang/Math", name := "min", desc := "(II)I" } : Jvm.MethodName) jdk_29_method_69_code (2 : Nat) (Option.some Jvm.ClassFile.FieldType.int)).before args0 about1 = true := code_word (m := ⟨16, 2⟩) (meth := k16m2) (c := k16c2) (by decide +kernel) rfl rfl rfl (by decide +kernel)
set_option maxRecDepth 65536 in
theorem w_c23 : (Jvm.Cond.code ({ cls := "java/lang/StringBuilder", name := "toString", desc := "()Ljava/lang/String;" } : Jvm.MethodName) jdk_67_method_42_code (1 : Nat) (Option.some (Jvm.ClassFile.FieldType.object "java/lang/String"))).before args0 about1 = true := code_word (m := ⟨13, 2⟩) (meth := k13m2) (c := k13c2) (by decide +kernel) rfl rfl rfl (by decide +kernel)
set_option maxRecDepth 65536 in
theorem w_c24 : (Jvm.Cond.code ({ cls := "java/lang/String", name := "<init>", desc := "(Ljava/lang/StringBuilder;)V" } : Jvm.MethodName) jdk_42_method_53_code (2 : Nat) (Option.none : Option Jvm.ClassFile.FieldType)).before args0 about1 = true := code_word (m := ⟨9, 2⟩) (meth := k9m2) (c := k9c2) (by decide +kernel) rfl rfl rfl (by decide +kernel)
set_option maxRecDepth 65536 in
theorem w_c25 : (Jvm.Cond.code ({ cls := "java/lang/String", name := "<init>", desc := "(Ljava/lang/AbstractStringBuilder;Ljava/lang/Void;)V" } : Jvm.MethodName) jdk_42_method_150_code (5 : Nat) (Option.none : Option Jvm.ClassFile.FieldType)).before args0 about1 = true := code_word (m := ⟨9, 8⟩) (meth := k9m8) (c := k9c8) (by decide +kernel) rfl rfl rfl (by decide +kernel)
set_option maxRecDepth 65536 in
theorem w_c26 : (Jvm.Cond.code ({ cls := "java/lang/AbstractStringBuilder", name := "getValue", desc := "()[B" } : Jvm.MethodName) jdk_68_method_64_code (1 : Nat) (Option.some (Jvm.ClassFile.FieldType.array Jvm.ClassFile.FieldType.byte))).before args0 about1 = true := code_word (m := ⟨12, 6⟩) (meth := k12m6) (c := k12c6) (by decide +kernel) rfl rfl rfl (by decide +kernel)
set_option maxRecDepth 65536 in
theorem w_c27 : (Jvm.Cond.code ({ cls := "java/lang/StringBuilder", name := "length", desc := "()I" } : Jvm.MethodName) jdk_67_method_93_code (1 : Nat) (Option.some Jvm.ClassFile.FieldType.int)).before args0 about1 = true := code_word (m := ⟨13, 3⟩) (meth := k13m3) (c := k13c3) (by decide +kernel) rfl rfl rfl (by decide +kernel)
set_option maxRecDepth 65536 in
theorem w_c28 : (Jvm.Cond.code ({ cls := "java/lang/AbstractStringBuilder", name := "length", desc := "()I" } : Jvm.MethodName) jdk_68_method_6_code (1 : Nat) (Option.some Jvm.ClassFile.FieldType.int)).before args0 about1 = true := code_word (m := ⟨12, 2⟩) (meth := k12m2) (c := k12c2) (by decide +kernel) rfl rfl rfl (by decide +kernel)
set_option maxRecDepth 65536 in
theorem w_c29 : (Jvm.Cond.code ({ cls := "java/lang/AbstractStringBuilder", name := "isLatin1", desc := "()Z" } : Jvm.MethodName) jdk_68_method_68_code (1 : Nat) (Option.some Jvm.ClassFile.FieldType.boolean)).before args0 about1 = true := code_word (m := ⟨12, 7⟩) (meth := k12m7) (c := k12c7) (by decide +kernel) rfl rfl rfl (by decide +kernel)
set_option maxRecDepth 65536 in
theorem w_c30 : (Jvm.Cond.code ({ cls := "java/util/Arrays", name := "copyOfRange", desc := "([BII)[B" } : Jvm.MethodName) jdk_65_method_132_code (3 : Nat) (Option.some (Jvm.ClassFile.FieldType.array Jvm.ClassFile.FieldType.byte))).before args0 about1 = true := code_word (m := ⟨17, 3⟩) (meth := k17m3) (c := k17c3) (by decide +kernel) rfl rfl rfl (by decide +kernel)
set_option maxRecDepth 65536 in
theorem w_c31 : (Jvm.Cond.code ({ cls := "java/util/Arrays", name := "copyOfRangeByte", desc := "([BII)[B" } : Jvm.MethodName) jdk_65_method_133_code (5 : Nat) (Option.some (Jvm.ClassFile.FieldType.array Jvm.ClassFile.FieldType.byte))).before args0 about1 = true := code_word (m := ⟨17, 4⟩) (meth := k17m4) (c := k17c4) (by decide +kernel) rfl rfl rfl (by decide +kernel)
set_option maxRecDepth 65536 in
theorem w_c32 : (Jvm.Cond.code ({ cls := "java/util/Arrays", name := "checkLength", desc := "(II)V" } : Jvm.MethodName) jdk_65_method_131_code (2 : Nat) (Option.none : Option Jvm.ClassFile.FieldType)).before args0 about1 = true := code_word (m := ⟨17, 2⟩) (meth := k17m2) (c := k17c2) (by decide +kernel) rfl rfl rfl (by decide +kernel)
set_option maxRecDepth 65536 in
theorem w_c33 : (Jvm.Cond.code ({ cls := "com/example/librowmap/librowmap/sql/DialectTextOfPinLaw", name := "eq", desc := "(Ljava/lang/String;IC)Z" } : Jvm.MethodName) method_2_code (3 : Nat) (Option.some Jvm.ClassFile.FieldType.boolean)).before args0 about1 = true := code_word (m := ⟨1, 1⟩) (meth := k1m1) (c := k1c1) (by decide +kernel) rfl rfl rfl (by decide +kernel)
set_option maxRecDepth 65536 in
theorem w_c34 : (Jvm.Cond.code ({ cls := "java/lang/String", name := "charAt", desc := "(I)C" } : Jvm.MethodName) jdk_42_method_56_code (2 : Nat) (Option.some Jvm.ClassFile.FieldType.char)).before args0 about1 = true := code_word (m := ⟨9, 4⟩) (meth := k9m4) (c := k9c4) (by decide +kernel) rfl rfl rfl (by decide +kernel)
set_option maxRecDepth 65536 in
theorem w_c35 : (Jvm.Cond.code ({ cls := "java/lang/String", name := "isLatin1", desc := "()Z" } : Jvm.MethodName) jdk_42_method_154_code (1 : Nat) (Option.some Jvm.ClassFile.FieldType.boolean)).before args0 about1 = true := code_word (m := ⟨9, 10⟩) (meth := k9m10) (c := k9c10) (by decide +kernel) rfl rfl rfl (by decide +kernel)
set_option maxRecDepth 65536 in
theorem w_c36 : (Jvm.Cond.code ({ cls := "java/lang/StringLatin1", name := "charAt", desc := "([BI)C" } : Jvm.MethodName) jdk_43_method_2_code (2 : Nat) (Option.some Jvm.ClassFile.FieldType.char)).before args0 about1 = true := code_word (m := ⟨18, 1⟩) (meth := k18m1) (c := k18c1) (by decide +kernel) rfl rfl rfl (by decide +kernel)
set_option maxRecDepth 65536 in
theorem w_c37 : (Jvm.Cond.code ({ cls := "java/lang/String", name := "checkIndex", desc := "(II)V" } : Jvm.MethodName) jdk_42_method_155_code (2 : Nat) (Option.none : Option Jvm.ClassFile.FieldType)).before args0 about1 = true := code_word (m := ⟨9, 11⟩) (meth := k9m11) (c := k9c11) (by decide +kernel) rfl rfl rfl (by decide +kernel)
set_option maxRecDepth 65536 in
theorem w_c38 : (Jvm.Cond.code ({ cls := "jdk/internal/util/Preconditions", name := "checkIndex", desc := "(IILjava/util/function/BiFunction;)I" } : Jvm.MethodName) jdk_41_method_11_code (3 : Nat) (Option.some Jvm.ClassFile.FieldType.int)).before args0 about1 = true := code_word (m := ⟨19, 1⟩) (meth := k19m1) (c := k19c1) (by decide +kernel) rfl rfl rfl (by decide +kernel)
set_option maxRecDepth 65536 in
theorem w_c39 : (Jvm.Cond.code ({ cls := "java/lang/String", name := "equals", desc := "(Ljava/lang/Object;)Z" } : Jvm.MethodName) jdk_42_method_66_code (3 : Nat) (Option.some Jvm.ClassFile.FieldType.boolean)).before args0 about1 = true := code_word (m := ⟨9, 5⟩) (meth := k9m5) (c := k9c5) (by decide +kernel) rfl rfl rfl (by decide +kernel)
def codes1 : List Jvm.Cond := [Jvm.Cond.code x code maxLocals ret, Jvm.Cond.code ({ cls := "java/lang/String", name := "<init>", desc := "([C)V" } : Jvm.MethodName) jdk_42_method_3_code (2 : Nat) (Option.none : Option Jvm.ClassFile.FieldType), Jvm.Cond.code ({ cls := "java/lang/String", name := "<init>", desc := "([CIILjava/lang/Void;)V" } : Jvm.MethodName) jdk_42_method_149_code (6 : Nat) (Option.none : Option Jvm.ClassFile.FieldType), Jvm.Cond.code ({ cls := "java/lang/Object", name := "<init>", desc := "()V" } : Jvm.MethodName) object_method_1_code (1 : Nat) (Option.none : Option Jvm.ClassFile.FieldType), Jvm.Cond.code ({ cls := "java/lang/StringUTF16", name := "compress", desc := "([CII)[B" } : Jvm.MethodName) jdk_52_method_16_code (6 : Nat) (Option.some (Jvm.ClassFile.FieldType.array Jvm.ClassFile.FieldType.byte)), Jvm.Cond.code ({ cls := "java/lang/StringUTF16", name := "compress", desc := "([CI[BII)I" } : Jvm.MethodName) jdk_52_method_21_code (7 : Nat) (Option.some Jvm.ClassFile.FieldType.int), Jvm.Cond.code ({ cls := "java/lang/StringUTF16", name := "coderFromArrayLen", desc := "([BI)B" } : Jvm.MethodName) jdk_52_method_15_code (2 : Nat) (Option.some Jvm.ClassFile.FieldType.byte), Jvm.Cond.code ({ cls := "com/example/librowmap/librowmap/sql/Dialect", name := "textOf", desc := "(Ljava/lang/String;)Ljava/lang/String;" } : Jvm.MethodName) prog_92_method_16_code (3 : Nat) (Option.some (Jvm.ClassFile.FieldType.object "java/lang/String")), Jvm.Cond.code ({ cls := "java/lang/StringBuilder", name := "<init>", desc := "()V" } : Jvm.MethodName) jdk_67_method_1_code (1 : Nat) (Option.none : Option Jvm.ClassFile.FieldType), Jvm.Cond.code ({ cls := "java/lang/AbstractStringBuilder", name := "<init>", desc := "(I)V" } : Jvm.MethodName) jdk_68_method_2_code (2 : Nat) (Option.none : Option Jvm.ClassFile.FieldType), Jvm.Cond.code ({ cls := "java/lang/StringBuilder", name := "append", desc := "(Ljava/lang/String;)Ljava/lang/StringBuilder;" } : Jvm.MethodName) jdk_67_method_7_code (2 : Nat) (Option.some (Jvm.ClassFile.FieldType.object "java/lang/StringBuilder")), Jvm.Cond.code ({ cls := "java/lang/AbstractStringBuilder", name := "append", desc := "(Ljava/lang/String;)Ljava/lang/AbstractStringBuilder;" } : Jvm.MethodName) jdk_68_method_22_code (3 : Nat) (Option.some (Jvm.ClassFile.FieldType.object "java/lang/AbstractStringBuilder")), Jvm.Cond.code ({ cls := "java/lang/String", name := "length", desc := "()I" } : Jvm.MethodName) jdk_42_method_54_code (1 : Nat) (Option.some Jvm.ClassFile.FieldType.int), Jvm.Cond.code ({ cls := "java/lang/String", name := "coder", desc := "()B" } : Jvm.MethodName) jdk_42_method_152_code (1 : Nat) (Option.some Jvm.ClassFile.FieldType.byte), Jvm.Cond.code ({ cls := "java/lang/AbstractStringBuilder", name := "ensureCapacityInternal", desc := "(I)V" } : Jvm.MethodName) jdk_68_method_9_code (3 : Nat) (Option.none : Option Jvm.ClassFile.FieldType), Jvm.Cond.code ({ cls := "java/lang/AbstractStringBuilder", name := "putStringAt", desc := "(ILjava/lang/String;)V" } : Jvm.MethodName) jdk_68_method_73_code (3 : Nat) (Option.none : Option Jvm.ClassFile.FieldType), Jvm.Cond.code ({ cls := "java/lang/AbstractStringBuilder", name := "inflateIfNeededFor", desc := "(Ljava/lang/String;)V" } : Jvm.MethodName) jdk_68_method_71_code (2 : Nat) (Option.none : Option Jvm.ClassFile.FieldType), Jvm.Cond.code ({ cls := "java/lang/String", name := "getBytes", desc := "([BIB)V" } : Jvm.MethodName) jdk_42_method_147_code (4 : Nat) (Option.none : Option Jvm.ClassFile.FieldType), Jvm.Cond.code ({ cls := "java/lang/AbstractStringBuilder", name := "newCapacity", desc := "(I)I" } : Jvm.MethodName) jdk_68_method_10_code (6 : Nat) (Option.some Jvm.ClassFile.FieldType.int), Jvm.Cond.code ({ cls := "jdk/internal/util/ArraysSupport", name := "newLength", desc := "(III)I" } : Jvm.MethodName) jdk_48_method_27_code (4 : Nat) (Option.some Jvm.ClassFile.FieldType.int), Jvm.Cond.code ({ cls := "java/lang/Math", name := "max", desc := "(II)I" } : Jvm.MethodName) jdk_29_method_65_code (2 : Nat) (Option.some Jvm.ClassFile.FieldType.int), Jvm.Cond.code ({ cls := "java/util/Arrays", name := "copyOf", desc := "([BI)[B" } : Jvm.MethodName) jdk_65_method_121_code (3 : Nat) (Option.some (Jvm.ClassFile.FieldType.array Jvm.ClassFile.FieldType.byte)), Jvm.Cond.code ({ cls := "java/lang/Math", name := "min", desc := "(II)I" } : Jvm.MethodName) jdk_29_method_69_code (2 : Nat) (Option.some Jvm.ClassFile.FieldType.int), Jvm.Cond.code ({ cls := "java/lang/StringBuilder", name := "toString", desc := "()Ljava/lang/String;" } : Jvm.MethodName) jdk_67_method_42_code (1 : Nat) (Option.some (Jvm.ClassFile.FieldType.object "java/lang/String")), Jvm.Cond.code ({ cls := "java/lang/String", name := "<init>", desc := "(Ljava/lang/StringBuilder;)V" } : Jvm.MethodName) jdk_42_method_53_code (2 : Nat) (Option.none : Option Jvm.ClassFile.FieldType), Jvm.Cond.code ({ cls := "java/lang/String", name := "<init>", desc := "(Ljava/lang/AbstractStringBuilder;Ljava/lang/Void;)V" } : Jvm.MethodName) jdk_42_method_150_code (5 : Nat) (Option.none : Option Jvm.ClassFile.FieldType), Jvm.Cond.code ({ cls := "java/lang/AbstractStringBuilder", name := "getValue", desc := "()[B" } : Jvm.MethodName) jdk_68_method_64_code (1 : Nat) (Option.some (Jvm.ClassFile.FieldType.array Jvm.ClassFile.FieldType.byte)), Jvm.Cond.code ({ cls := "java/lang/StringBuilder", name := "length", desc := "()I" } : Jvm.MethodName) jdk_67_method_93_code (1 : Nat) (Option.some Jvm.ClassFile.FieldType.int), Jvm.Cond.code ({ cls := "java/lang/AbstractStringBuilder", name := "length", desc := "()I" } : Jvm.MethodName) jdk_68_method_6_code (1 : Nat) (Option.some Jvm.ClassFile.FieldType.int), Jvm.Cond.code ({ cls := "java/lang/AbstractStringBuilder", name := "isLatin1", desc := "()Z" } : Jvm.MethodName) jdk_68_method_68_code (1 : Nat) (Option.some Jvm.ClassFile.FieldType.boolean), Jvm.Cond.code ({ cls := "java/util/Arrays", name := "copyOfRange", desc := "([BII)[B" } : Jvm.MethodName) jdk_65_method_132_code (3 : Nat) (Option.some (Jvm.ClassFile.FieldType.array Jvm.ClassFile.FieldType.byte)), Jvm.Cond.code ({ cls := "java/util/Arrays", name := "copyOfRangeByte", desc := "([BII)[B" } : Jvm.MethodName) jdk_65_method_133_code (5 : Nat) (Option.some (Jvm.ClassFile.FieldType.array Jvm.ClassFile.FieldType.byte)), Jvm.Cond.code ({ cls := "java/util/Arrays", name := "checkLength", desc := "(II)V" } : Jvm.MethodName) jdk_65_method_131_code (2 : Nat) (Option.none : Option Jvm.ClassFile.FieldType), Jvm.Cond.code ({ cls := "com/example/librowmap/librowmap/sql/DialectTextOfPinLaw", name := "eq", desc := "(Ljava/lang/String;IC)Z" } : Jvm.MethodName) method_2_code (3 : Nat) (Option.some Jvm.ClassFile.FieldType.boolean), Jvm.Cond.code ({ cls := "java/lang/String", name := "charAt", desc := "(I)C" } : Jvm.MethodName) jdk_42_method_56_code (2 : Nat) (Option.some Jvm.ClassFile.FieldType.char), Jvm.Cond.code ({ cls := "java/lang/String", name := "isLatin1", desc := "()Z" } : Jvm.MethodName) jdk_42_method_154_code (1 : Nat) (Option.some Jvm.ClassFile.FieldType.boolean), Jvm.Cond.code ({ cls := "java/lang/StringLatin1", name := "charAt", desc := "([BI)C" } : Jvm.MethodName) jdk_43_method_2_code (2 : Nat) (Option.some Jvm.ClassFile.FieldType.char), Jvm.Cond.code ({ cls := "java/lang/String", name := "checkIndex", desc := "(II)V" } : Jvm.MethodName) jdk_42_method_155_code (2 : Nat) (Option.none : Option Jvm.ClassFile.FieldType), Jvm.Cond.code ({ cls := "jdk/internal/util/Preconditions", name := "checkIndex", desc := "(IILjava/util/function/BiFunction;)I" } : Jvm.MethodName) jdk_41_method_11_code (3 : Nat) (Option.some Jvm.ClassFile.FieldType.int), Jvm.Cond.code ({ cls := "java/lang/String", name := "equals", desc := "(Ljava/lang/Object;)Z" } : Jvm.MethodName) jdk_42_method_66_code (3 : Nat) (Option.some Jvm.ClassFile.FieldType.boolean)]
set_option maxRecDepth 65536 in
theorem codes_eq : words1.filter isCode = codes1 := rfl
theorem w_codes : ∀ c ∈ words1.filter isCode, c.before args0 about1 = true := by
  rw [codes_eq]
  intro c hc
  simp only [codes1, List.mem_cons, List.not_mem_nil, or_false] at hc
  rcases hc with rfl | rfl | rfl | rfl | rfl | rfl | rfl | rfl | rfl | rfl | rfl | rfl | rfl | rfl | rfl | rfl | rfl | rfl | rfl | rfl | rfl | rfl | rfl | rfl | rfl | rfl | rfl | rfl | rfl | rfl | rfl | rfl | rfl | rfl | rfl | rfl | rfl | rfl | rfl | rfl
  · exact w_c0
  · exact w_c1
  · exact w_c2
  · exact w_c3
  · exact w_c4
  · exact w_c5
  · exact w_c6
  · exact w_c7
  · exact w_c8
  · exact w_c9
  · exact w_c10
  · exact w_c11
  · exact w_c12
  · exact w_c13
  · exact w_c14
  · exact w_c15
  · exact w_c16
  · exact w_c17
  · exact w_c18
  · exact w_c19
  · exact w_c20
  · exact w_c21
  · exact w_c22
  · exact w_c23
  · exact w_c24
  · exact w_c25
  · exact w_c26
  · exact w_c27
  · exact w_c28
  · exact w_c29
  · exact w_c30
  · exact w_c31
  · exact w_c32
  · exact w_c33
  · exact w_c34
  · exact w_c35
  · exact w_c36
  · exact w_c37
  · exact w_c38
  · exact w_c39
set_option maxRecDepth 65536 in
theorem w_t1 : (words1.take 24).all (fun c => isCode c || c.before args0 about1) = true := by decide +kernel
set_option maxRecDepth 65536 in
theorem w_t2 : ((words1.drop 24).take 24).all (fun c => isCode c || c.before args0 about1) = true := by decide +kernel
set_option maxRecDepth 65536 in
theorem w_t3 : (((words1.drop 24).drop 24).take 24).all (fun c => isCode c || c.before args0 about1) = true := by decide +kernel
set_option maxRecDepth 65536 in
theorem w_t4 : ((((words1.drop 24).drop 24).drop 24).take 24).all (fun c => isCode c || c.before args0 about1) = true := by decide +kernel
set_option maxRecDepth 65536 in
theorem w_t5 : (((((words1.drop 24).drop 24).drop 24).drop 24).take 24).all (fun c => isCode c || c.before args0 about1) = true := by decide +kernel
set_option maxRecDepth 65536 in
theorem w_t6 : ((((((words1.drop 24).drop 24).drop 24).drop 24).drop 24).take 24).all (fun c => isCode c || c.before args0 about1) = true := by decide +kernel
set_option maxRecDepth 65536 in
theorem w_t7 : (((((((words1.drop 24).drop 24).drop 24).drop 24).drop 24).drop 24).take 24).all (fun c => isCode c || c.before args0 about1) = true := by decide +kernel
set_option maxRecDepth 65536 in
theorem w_t8 : ((((((((words1.drop 24).drop 24).drop 24).drop 24).drop 24).drop 24).drop 24).take 24).all (fun c => isCode c || c.before args0 about1) = true := by decide +kernel
set_option maxRecDepth 65536 in
theorem w_t9 : (((((((((words1.drop 24).drop 24).drop 24).drop 24).drop 24).drop 24).drop 24).drop 24).take 24).all (fun c => isCode c || c.before args0 about1) = true := by decide +kernel
set_option maxRecDepth 65536 in
theorem w_t10 : (((((((((words1.drop 24).drop 24).drop 24).drop 24).drop 24).drop 24).drop 24).drop 24).drop 24).all (fun c => isCode c || c.before args0 about1) = true := by decide +kernel
theorem w_tables : (allAtoms (Jvm.Cond.code x code maxLocals ret :: tables_1)).before args0 about1 = true := by
  rw [allAtoms_all]
  show words1.all (fun c => c.before args0 about1) = true
  refine all_split ?_ w_codes
  rw [← List.take_append_drop 24 words1, List.all_append, w_t1, ← List.take_append_drop 24 (words1.drop 24), List.all_append, w_t2, ← List.take_append_drop 24 ((words1.drop 24).drop 24), List.all_append, w_t3, ← List.take_append_drop 24 (((words1.drop 24).drop 24).drop 24), List.all_append, w_t4, ← List.take_append_drop 24 ((((words1.drop 24).drop 24).drop 24).drop 24), List.all_append, w_t5, ← List.take_append_drop 24 (((((words1.drop 24).drop 24).drop 24).drop 24).drop 24), List.all_append, w_t6, ← List.take_append_drop 24 ((((((words1.drop 24).drop 24).drop 24).drop 24).drop 24).drop 24), List.all_append, w_t7, ← List.take_append_drop 24 (((((((words1.drop 24).drop 24).drop 24).drop 24).drop 24).drop 24).drop 24), List.all_append, w_t8, ← List.take_append_drop 24 ((((((((words1.drop 24).drop 24).drop 24).drop 24).drop 24).drop 24).drop 24).drop 24), List.all_append, w_t9, w_t10]
  rfl
set_option maxRecDepth 65536 in
theorem w_rest : rest_1_c.before args0 about1 = true := by decide +kernel
set_option maxRecDepth 65536 in
theorem w_case : (Jvm.Cond.and given_1 narrow_1).before args0 about1 = true := by decide +kernel
set_option maxRecDepth 65536 in
theorem w_consts : constsHeld consts_1 about1 := Jvm.Lit.constsHeldB_iff.mp (by decide +kernel)
theorem w_applies : (headSpec (Jvm.Cond.code x code maxLocals ret :: tables_1) room_1).applies x e0.platform about1 = true :=
  (Spec.applies_iff w_frames).mpr ⟨w_running, w_runnable, w_alone, w_named, w_hears, w_ripe, w_room, w_tables⟩
theorem atStart : AtStart classFile x code maxLocals ret World_1 tables_1 room_1 Calls_1 rest_1 Pre_1 launch0 p0 e0 about1 theMethod args0 below0 :=
  ⟨lists_1, trivial, launch0.admits_env _ _ _, launch0.least_env, fairChoices_fair.cas, fairChoices_fair.clock, w_frames, w_args, w_heap, w_applies, ⟨w_consts, trivial⟩, w_rest, w_case⟩
end start1
theorem witness_1 : WitnessClaimed_1 := ⟨start1.p0, start1.e0, start1.about1, start1.theMethod, start1.args0, start1.below0, start1.atStart⟩
end Jvm.Pilot.@@N@@
