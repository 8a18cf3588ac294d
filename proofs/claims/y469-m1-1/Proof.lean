import JvmDerived
import JvmDerived.Pilot.@@N@@Statement
import JvmDerived.Pilot.@@N@@Code
set_option linter.unusedVariables false
set_option linter.unusedSimpArgs false
namespace Jvm.RoadKit
open Sem ClassFile Op Lib Jvm.Stand Jvm.Free Jvm.LawKit
section New
variable {p : Program} {l : Launch} {e : Env} {R : Room} {s : State} {m : MethodId} {args : Array Value} {below : List Frame} {meth : Method} {c : Code} {T : State} {locs : List Loc} {cells slots : Nat}
theorem retI (X : Stand p l e R s m args below meth c T locs cells slots) (hx : p.tables.exec = Jvm.exec) {pc : Nat} {Ls : Array Slot} {z : Int32} {rest : List Value} (hret : meth.sig.returnType = some .int) (hd : decode c.code pc = .ok (.ireturn, 1)) {fs : List Frame}
    (hl : ∀ (f : JFrame) (acts : List Action), f.method = m → f.locked = none → f.entered = [] → (doReturn e (T.setTop f) acts (some (.int z))).1 = T.setFrames fs) : Steps p.tables e below (T.setTop (mkF m pc Ls (.int z :: rest))) (T.setFrames fs) := by
  have hm' : T.vm.method? m = some meth := X.method'
  have hn : narrow .int (.int z) = .int z := rfl
  show Steps p.tables e below (T.setTop { method := m, pc := pc, locals := Ls, stack := _ :: rest, locked := none }) _
  jvm_step X.here [X.here.top, hx, hd, hm', hret, hn]
  first | (intro acts; rw [hl _ acts rfl rfl rfl]) | rw [hl _ _ rfl rfl rfl]
  exact Steps.refl _
end New
end Jvm.RoadKit
namespace Jvm.Pilot.@@N@@
open Jvm Jvm.ClassFile Sem Op Lib Jvm.Free Jvm.Stand Jvm.LawKit Jvm.RoadKit Bundle Jvm.Pilot.@@N@@.Jvm.D
def own_QP (r : Option Value) (h0 : Heap) (n0 : Nat) (v : Option Value) (h : Heap) (L : List Loc) : Prop := v = r ∧ Fr n0 L ∧ h = h0
def own_Q0 (n0 : Nat) (v : Option Value) (h : Heap) (L : List Loc) : Prop := v = some (.int 1) ∧ Fr n0 L
section OwnWords
variable {args : Array Value} {s : State}
theorem own_eqI {t : Term} {k : Int32} (h : (Jvm.Cond.eq t (.int k)).value args s none s [] = some true) : t.eval args s none [] s = some (.int k) := by
  obtain ⟨x, y, h1, h2, h3, h4⟩ := cmp_v (Or.inl h)
  obtain rfl : y = .int k := (Option.some.inj h2).symm
  obtain ⟨z, rfl⟩ := h4
  have q := gotT (Cond.eq_ints h1 h2) h
  rw [h1, q]
theorem own_eqR {t u : Term} {b : Addr} (h : (Jvm.Cond.eq t u).value args s none s [] = some true) (hu : u.eval args s none [] s = some (.ref b)) : t.eval args s none [] s = some (.ref b) := by
  obtain ⟨x, y, h1, h2, h3, h4⟩ := cmp_v (Or.inl h)
  obtain rfl : y = .ref b := Option.some.inj (h2.symm.trans hu)
  have q := gotT (eq_R h1 h2 h4.2 h4.1) h
  rw [h1, q]
theorem own_fld {t : Term} {C n d : String} {a : Addr} {v : Value} (ht : t.eval args s none [] s = some (.ref a)) (h : (Term.field t C n d).eval args s none [] s = some v) : Fld s s.heap a C n d v := Fld.start ((fld_at ht).symm.trans h)
end OwnWords
theorem own_staKeep {Z : State} {h h' : Heap} {C n d : String} {v : Value} {ws : List Addr} (F : Sta Z h C n d v) (K : Keep h h' ws) (q : ∀ x ∈ ws, ∀ cell : Cell, h[x]? = some cell → cell.vm.isStatics = false) : Sta Z h' C n d v := by
  obtain ⟨cf, i, k, f, st, cell, h1, h2, h3, h4, h5, h6, h7⟩ := F
  refine ⟨cf, i, k, f, st, cell, h1, h2, h3, h4, K.2.1 st cell h5 (fun z => ?_), h6, h7⟩
  rw [q st z cell h5] at h6; cases h6
abbrev own_MF (l : Launch) (y : MethodName) (k : Jvm.Cond) (ws : List Jvm.Cond) (R : Room) (A : Array Value) (Z : State) (h0 : Heap) (Q : Option Value → Heap → List Loc → Prop) : Prop := MetFree l y (head1 (k :: ws) R) (fun a U => a = A ∧ Z.Warmed39 U.vm ∧ U.heap = h0) (fun _ _ _ _ _ => True) (fun _ U o U' => ∃ v L, o = .returned v ∧ Q v U'.heap L ∧ FrameEnd U o U' L R.cells R.slots)
theorem own_g {P : Jvm.Cond → Prop} (hw : ∀ d ∈ tables_1, P d) (i : Nat) {d : Jvm.Cond} (h : tables_1[i]? = some d) : P d := hw d (List.mem_of_getElem? h)
abbrev own_y0 : MethodName := ⟨"java/lang/StringUTF16", "compress", "([CI[BII)I"⟩
abbrev own_y1 : MethodName := ⟨"java/lang/StringUTF16", "compress", "([CII)[B"⟩
abbrev own_y2 : MethodName := ⟨"java/lang/StringUTF16", "coderFromArrayLen", "([BI)B"⟩
abbrev own_y3 : MethodName := ⟨"java/lang/String", "<init>", "([CIILjava/lang/Void;)V"⟩
abbrev own_y4 : MethodName := ⟨"java/lang/String", "<init>", "([C)V"⟩
abbrev own_y5 : MethodName := ⟨"com/example/bundlewright/bundlewright/core/NameIsPinLaw", "makeName", "(ICCCC)Ljava/lang/String;"⟩
abbrev own_y6 : MethodName := ⟨"java/lang/String", "coder", "()B"⟩
abbrev own_y7 : MethodName := ⟨"java/lang/String", "isLatin1", "()Z"⟩
abbrev own_y8 : MethodName := ⟨"java/lang/String", "length", "()I"⟩
abbrev own_y9 : MethodName := ⟨"java/lang/Math", "max", "(II)I"⟩
abbrev own_y10 : MethodName := ⟨"java/lang/Math", "min", "(II)I"⟩
abbrev own_y11 : MethodName := ⟨"java/lang/StringLatin1", "canEncode", "(I)Z"⟩
abbrev own_y12 : MethodName := ⟨"java/util/Arrays", "checkLength", "(II)V"⟩
abbrev own_y13 : MethodName := ⟨"jdk/internal/util/Preconditions", "checkIndex", "(IILjava/util/function/BiFunction;)I"⟩
abbrev own_y14 : MethodName := ⟨"jdk/internal/util/Preconditions", "checkFromToIndex", "(IIILjava/util/function/BiFunction;)I"⟩
abbrev own_y15 : MethodName := ⟨"java/lang/String", "checkIndex", "(II)V"⟩
abbrev own_y16 : MethodName := ⟨"java/lang/String", "checkBoundsBeginEnd", "(III)V"⟩
abbrev own_y17 : MethodName := ⟨"java/lang/StringLatin1", "indexOfChar", "([BIII)I"⟩
abbrev own_y18 : MethodName := ⟨"java/lang/StringLatin1", "indexOf", "([BIII)I"⟩
abbrev own_y19 : MethodName := ⟨"java/lang/String", "indexOf", "(II)I"⟩
abbrev own_y20 : MethodName := ⟨"java/lang/String", "indexOf", "(I)I"⟩
abbrev own_y21 : MethodName := ⟨"java/lang/StringLatin1", "charAt", "([BI)C"⟩
abbrev own_y22 : MethodName := ⟨"java/lang/String", "charAt", "(I)C"⟩
abbrev own_y23 : MethodName := ⟨"com/example/bundlewright/bundlewright/core/Name", "isNameStart", "(I)Z"⟩
abbrev own_y24 : MethodName := ⟨"java/lang/StringLatin1", "equals", "([B[B)Z"⟩
abbrev own_y25 : MethodName := ⟨"java/lang/String", "equals", "(Ljava/lang/Object;)Z"⟩
abbrev own_y26 : MethodName := ⟨"java/lang/StringCoding", "countPositives", "([BII)I"⟩
abbrev own_y27 : MethodName := ⟨"java/lang/String", "encodeASCII", "(B[B)[B"⟩
abbrev own_y28 : MethodName := ⟨"java/lang/String", "encode", "(Ljava/nio/charset/Charset;B[B)[B"⟩
abbrev own_y29 : MethodName := ⟨"java/lang/String", "getBytes", "(Ljava/nio/charset/Charset;)[B"⟩
abbrev own_y30 : MethodName := ⟨"java/lang/String", "<init>", "([BB)V"⟩
abbrev own_y31 : MethodName := ⟨"java/util/Arrays", "copyOfRangeByte", "([BII)[B"⟩
abbrev own_y32 : MethodName := ⟨"java/util/Arrays", "copyOfRange", "([BII)[B"⟩
abbrev own_y33 : MethodName := ⟨"java/lang/StringLatin1", "newString", "([BII)Ljava/lang/String;"⟩
abbrev own_y34 : MethodName := ⟨"java/lang/String", "substring", "(II)Ljava/lang/String;"⟩
abbrev own_y35 : MethodName := ⟨"java/lang/String", "substring", "(I)Ljava/lang/String;"⟩
abbrev own_y36 : MethodName := ⟨"com/example/bundlewright/bundlewright/core/Name", "<init>", "(Ljava/lang/String;I)V"⟩
abbrev own_y37 : MethodName := ⟨"com/example/bundlewright/bundlewright/core/Name", "is", "([BII)Z"⟩
abbrev own_EL : List (String × Nat) := [("com/example/bundlewright/bundlewright/core/Name", 56), ("com/example/bundlewright/bundlewright/core/Name", 73), ("com/example/bundlewright/bundlewright/core/Name", 82), ("java/lang/String", 7), ("java/lang/StringLatin1", 151)]
theorem own_hEL {Z : State} {a0 : Array Value} (hw : ∀ d ∈ tables_1, d.before a0 Z = true) : EW Z a0 own_EL := (EW.cons (own_g hw 115 rfl) (by decide) (EW.cons (own_g hw 120 rfl) (by decide) (EW.cons (own_g hw 132 rfl) (by decide) (EW.cons (own_g hw 20 rfl) (by decide) (EW.cons (own_g hw 195 rfl) (by decide) EW.nil)))))
def own_at (vs : List Value) (j : Int32) : Int32 := match vs.getD j.toNatClampNeg (.int 0) with | .int x => x | _ => 0
theorem own_atv {c : Cell} {vs : List Value} {j : Int32} (H : Has c vs (.int 0)) (G : ∀ i, i < c.slots.size → fits .byte (vs.getD i (.int 0)) = true) (q : ¬ (j < 0 ∨ c.slots.size ≤ j.toNatClampNeg)) : c.slots[j.toNatClampNeg]? = some (.int (own_at vs j)) := by
  have hl := Nat.lt_of_not_le fun y => q (Or.inr y)
  obtain ⟨x, hx⟩ := fit_I (G _ hl) (Or.inr (Or.inr (Or.inl rfl)))
  rw [H _ hl]; simp only [own_at, hx]
theorem own_setG {Z : State} {h h' : Heap} {a : Addr} {k : ClassId} {z : Int32} {vs : List Value} {sl : Nat} {v : Value} (F : Arv Z h a k .byte z vs (.int 0)) (W : Wr h h' a sl v) (hv : fits .byte v = true) : ∃ vs', Arv Z h' a k .byte z vs' (.int 0) := by
  obtain ⟨c, A, q1, S, q3, H, G⟩ := F
  refine ⟨(c.setSlot sl v).slots.toList, c.setSlot sl v, A.same W, q1, by rw [sz_set]; exact S, q3, fun i hi => ?_, fun i hi => ?_⟩
  · simp [List.getD_eq_getElem?_getD, hi]
  · have hi' := hi
    rw [sz_set] at hi'
    have g := G i hi'
    have e := H i hi'
    by_cases u : sl = i
    · subst u; simpa [List.getD_eq_getElem?_getD, Cell.setSlot, hi'] using hv
    · have e2 : (c.setSlot sl v).slots[i]? = some (vs.getD i (.int 0)) := by simp only [Cell.setSlot]; rw [Array.getElem?_setIfInBounds_ne u]; exact e
      have e3 : (c.setSlot sl v).slots.toList.getD i (.int 0) = vs.getD i (.int 0) := by rw [List.getD_eq_getElem?_getD, Array.getElem?_toList, e2]; rfl
      rw [e3]; exact g
theorem own_startG {s : State} {a : Addr} {cl : Cell} {z : Int32} (hf : Fit s) (A : Arr s s.heap a cl .byte) (q : cl.slots.size < 2 ^ 31) (e : cl.slots.size.toInt32 = z) (hz : ¬ z < 0) : ∃ vs, Arv s s.heap a cl.cls .byte z vs (.int 0) := by
  have T := Tab.start hf A (Or.inr (Or.inr (Or.inl rfl))) q e hz
  refine ⟨cl.slots.toList, cl, A, rfl, T.2.1, hz, fun i hi => by simp [List.getD_eq_getElem?_getD, hi], fun i hi => ?_⟩
  have e1 : (Nat.toInt32 i).toNatClampNeg = i := by simp only [Int32.toNatClampNeg, len_toInt (Nat.lt_trans hi q)]; rfl
  exact elem_fits (j := Nat.toInt32 i) hf A (idx_in hi q) (by rw [e1]; simp [List.getD_eq_getElem?_getD, hi])
theorem own_neS {Z : State} {h : Heap} {a b t u : Addr} {k k' : ClassId} {z z' : Int32} {vs vs' : List Value} {C n d : String} {dv dv' : Value} (F : Fld Z h a C n d (.ref t)) (G : Fld Z h b C n d (.ref u)) (A : Arv Z h t k .byte z vs dv) (B : Arv Z h u k' .byte z' vs' dv') (q : ¬ z = z') : ¬ a = b := fun e => by
  subst e
  have tu : t = u := by
    obtain ⟨c1, _, _, _, _, h1, h2, -, -, -, -, h7⟩ := F
    obtain ⟨c2, _, _, _, _, g1, g2, -, -, -, -, g7⟩ := G
    cases h1.symm.trans g1; cases h2.symm.trans g2; exact Value.ref.inj (Option.some.inj (h7.symm.trans g7))
  subst tu
  obtain ⟨c1, A1, -, S1, N1, -⟩ := A
  obtain ⟨c2, A2, -, S2, N2, -⟩ := B
  cases A1.1.symm.trans A2.1
  exact q ((len_of S1 N1).symm.trans (len_of S2 N2))
theorem own_shr0 (z : Int32) : (z >>> ((0 : Int32) &&& 31)) = z := by
  have h := c_ishr z (0 : Int32) 0 (by decide)
  rw [← Int32.toInt_inj]; omega
theorem own_nc {c : Int32} (h : ¬ c < 0 ∧ ¬ (127 : Int32) < c) : (nar .char c) = c := by
  have e : nar .char c = c.toUInt32.toUInt16.toUInt32.toInt32 := rfl
  have z0 : (0 : Int32).toInt = 0 := rfl
  have z1 : (127 : Int32).toInt = 127 := rfl
  obtain ⟨h1, h2⟩ := h
  rw [Int32.lt_iff_toInt_lt] at h1 h2
  rw [e, ← Int32.toInt_inj]
  have := c_i2c c
  omega
theorem own_n1 {c : Int32} (h : ¬ c < 0 ∧ ¬ (127 : Int32) < c) : (c.toInt8.toInt32) = c := by
  have z0 : (0 : Int32).toInt = 0 := rfl
  have z1 : (127 : Int32).toInt = 127 := rfl
  obtain ⟨h1, h2⟩ := h
  rw [Int32.lt_iff_toInt_lt] at h1 h2
  rw [← Int32.toInt_inj]
  have := c_i2b c
  omega
theorem own_n2 {c : Int32} (h : ¬ c < 0 ∧ ¬ (127 : Int32) < c) : ((c.toInt8.toInt32).toInt8.toInt32) = c := by rw [own_n1 h, own_n1 h]
theorem own_le {c : Int32} (h : ¬ c < 0 ∧ ¬ (127 : Int32) < c) : ¬ (255 : Int32) < c := by
  have z0 : (255 : Int32).toInt = 255 := rfl
  have z1 : (127 : Int32).toInt = 127 := rfl
  obtain ⟨h1, h2⟩ := h
  rw [Int32.lt_iff_toInt_lt] at h1 h2 ⊢
  omega
theorem own_c7 (q : Int64) : ¬ ((q &&& (127 : Int64)).toInt32.toUInt32.toUInt16.toUInt32.toInt32) < 0 ∧ ¬ (127 : Int32) < ((q &&& (127 : Int64)).toInt32.toUInt32.toUInt16.toUInt32.toInt32) := by
  have z0 : (0 : Int32).toInt = 0 := rfl
  have z1 : (127 : Int32).toInt = 127 := rfl
  have h := c_maskL q (127 : Int64) 7 (by decide) (by decide)
  generalize (q &&& (127 : Int64)) = y at *
  have h2 := c_l2i y
  have r32 := rng32 y.toInt32
  generalize y.toInt32 = w at *
  have h3 := c_i2c w
  rw [Int32.lt_iff_toInt_lt, Int32.lt_iff_toInt_lt]
  omega
theorem own_mod5 (q : Int64) : ((q &&& (7 : Int64)).toInt32 % (5 : Int32)) = (0 : Int32) ∨ ((q &&& (7 : Int64)).toInt32 % (5 : Int32)) = (1 : Int32) ∨ ((q &&& (7 : Int64)).toInt32 % (5 : Int32)) = (2 : Int32) ∨ ((q &&& (7 : Int64)).toInt32 % (5 : Int32)) = (3 : Int32) ∨ ((q &&& (7 : Int64)).toInt32 % (5 : Int32)) = (4 : Int32) := by
  have h := c_maskL q (7 : Int64) 3 (by decide) (by decide)
  generalize (q &&& (7 : Int64)) = y at *
  have h2 := c_l2i y
  have r32 := rng32 y.toInt32
  generalize y.toInt32 = w at *
  have r := (c_irem w (5 : Int32) 5 (by decide)).1 (by omega)
  simp only [← Int32.toInt_inj, Int32.reduceToInt]
  omega
theorem own_m3 (x : Int32) : ¬ (x &&& (3 : Int32)) < 0 ∧ ¬ (3 : Int32) < (x &&& (3 : Int32)) := by
  have z0 : (0 : Int32).toInt = 0 := rfl
  have z1 : (3 : Int32).toInt = 3 := rfl
  have h := c_mask x (3 : Int32) 2 (by decide) (by decide)
  rw [Int32.lt_iff_toInt_lt, Int32.lt_iff_toInt_lt]
  omega
theorem own_ib {a b : Int32} (ha : ¬ a < 0 ∧ ¬ (3 : Int32) < a) (hb : ¬ b < 0 ∧ ¬ (3 : Int32) < b) : ¬ (a + b) < 0 ∧ (a + b) < (8 : Int32) := by
  have z0 : (0 : Int32).toInt = 0 := rfl
  have z1 : (3 : Int32).toInt = 3 := rfl
  have z8 : (8 : Int32).toInt = 8 := rfl
  obtain ⟨h1, h2⟩ := ha
  obtain ⟨h3, h4⟩ := hb
  rw [Int32.lt_iff_toInt_lt] at h1 h2 h3 h4
  rw [Int32.lt_iff_toInt_lt, Int32.lt_iff_toInt_lt]
  have h := c_iadd a b
  have r := rng32 (a + b)
  omega
theorem own_ia {a : Int32} (ha : ¬ a < 0 ∧ ¬ (3 : Int32) < a) : ¬ a < 0 ∧ a < (8 : Int32) := by
  have z1 : (3 : Int32).toInt = 3 := rfl
  have z8 : (8 : Int32).toInt = 8 := rfl
  obtain ⟨h1, h2⟩ := ha
  refine ⟨h1, ?_⟩
  rw [Int32.lt_iff_toInt_lt] at h2 ⊢
  omega
theorem own_i0 : ¬ (0 : Int32) < 0 ∧ ¬ (3 : Int32) < (0 : Int32) := by decide
/-- a literal's bytes are a byte[] -/
theorem own_litB {Z : State} {EL : List (String × Nat)} {vm : Vm} {h : Heap} {b : Addr} {k : ClassId} {z : Int32} {vs : List Value} {d : Value} (hal : Z.vm.Alike vm) (A : Arv Z h b k .byte z vs d) (B : Bk Z EL vm h b) : Exa Z h b "[B" := by
  have ns := A.nostat
  obtain ⟨cl, ⟨A1, ⟨hs, kA, hkA, compA, hkindA⟩, -⟩, -⟩ := A
  obtain ⟨kA', hkA', ekA⟩ := hal.2.2 _ _ hkA
  obtain ⟨p, -, u, a, -, q, -, F, hy⟩ := B
  have ha := F.ha
  have hd := F.hd
  obtain ⟨cS, ⟨-, -, ec⟩, ⟨kS, g1, g2, -⟩, f, -⟩ := F
  rcases hy with rfl | rfl
  · exfalso
    cases (show h[q.sa]? = some q.sC from ha).symm.trans A1
    rw [← ec] at g1
    have g1' : vm.classes[q.sC.cls]? = some kS := g1
    rw [hkA'] at g1'
    cases g1'
    rw [ekA, hkindA] at g2
    cases g2
  · cases (show h[q.sd]? = some q.SA from hd).symm.trans A1
    have f' : vm.findClass "[B" = some q.SA.cls := f
    rw [hal.findClass] at f'
    exact ⟨_, kA, A1, f', hkA, ns _ A1, fun q => by rw [hkindA] at q; cases q⟩
/-- a String whose value is null is none of the literals that the tables book -/
theorem own_safeN {Z : State} {EL : List (String × Nat)} {vm : Vm} {h : Heap} {x : Addr} (hal : Z.vm.Alike vm) (E : Exa Z h x "java/lang/String") (F : Fld Z h x "java/lang/String" "value" "[B" .null) : Safe Z EL vm h x := fun B => by
  obtain ⟨pr, -, u, a, -, q, -, FB, hy⟩ := B
  have ha := FB.ha
  have hd := FB.hd
  obtain ⟨cS, ⟨⟨-, -, -, ⟨c1, k1, i1, f1, -⟩, -, -, -, v1, -⟩, -⟩, -, hB, -⟩ := FB
  rcases hy with rfl | rfl
  · obtain ⟨cell, cf, k, i, f, g1, g2, -, -, -, -, g7⟩ := F
    obtain ⟨k3, e3, -⟩ := State.fieldFound?_setVm (s := Z) hal g2
    have e4 := (show (Wst Z vm h).fieldFound? _ _ _ = _ from e3).symm.trans f1
    simp only [Option.some.injEq, Prod.mk.injEq] at e4
    cases g1.symm.trans (show h[q.sa]? = some q.sC from ha)
    rw [← e4.2.2.2, g7] at v1
    cases v1
  · obtain ⟨cell, k, g1, g2, -⟩ := E
    cases g1.symm.trans (show h[q.sd]? = some q.SA from hd)
    have hB' : vm.findClass "[B" = some q.SA.cls := hB
    rw [hal.findClass] at hB'
    exact absurd rfl (ids_ne g2 hB' (by decide))
theorem own_za (x : Int32) : (0 : Int32) + x = x := by simp
theorem own_az (x : Int32) : x + (0 : Int32) = x := by simp
theorem own_sub0 (x : Int32) : x - x = (0 : Int32) := by simp
theorem own_nlt {a b : Int32} (h : a < b) : ¬ b < a := by
  rw [Int32.lt_iff_toInt_lt] at h ⊢; omega
theorem own_ne0 {a : Int32} (h : (0 : Int32) < a) : ¬ a = (0 : Int32) := fun e => by subst e; exact absurd h (by decide)
theorem own_cap4 {z : Int32} (h : ¬ (4 : Int32) < z) : z.toNatClampNeg ≤ 4 := by
  have z4 : (4 : Int32).toInt = 4 := rfl
  rw [Int32.lt_iff_toInt_lt] at h; simp only [Int32.toNatClampNeg]; omega
section OwnIdx
theorem own_ik0 {p2 z : Int32} (hf0 : (0 : Int32) < p2) (hf1 : p2 < z) (hz4 : ¬ (4 : Int32) < z) : ¬ p2 < 0 ∧ p2 < z := ⟨own_nlt hf0, hf1⟩
theorem own_ikk {p2 z : Int32} (hf0 : (0 : Int32) < p2) (hf1 : p2 < z) (hz4 : ¬ (4 : Int32) < z) : 0 < p2.toInt ∧ p2.toInt < 4 ∧ (p2 + (1 : Int32)).toInt = p2.toInt + 1 ∧ ((p2 + (1 : Int32)) + (1 : Int32)).toInt = p2.toInt + 2 ∧ (((p2 + (1 : Int32)) + (1 : Int32)) + (1 : Int32)).toInt = p2.toInt + 3 := by
  have z0 : (0 : Int32).toInt = 0 := rfl
  have z4 : (4 : Int32).toInt = 4 := rfl
  have z1 : (1 : Int32).toInt = 1 := rfl
  rw [Int32.lt_iff_toInt_lt] at hf0 hf1 hz4
  have a1 := c_iadd p2 1
  have r1 := rng32 (p2 + 1)
  have a2 := c_iadd (p2 + 1) 1
  have r2 := rng32 (p2 + 1 + 1)
  have a3 := c_iadd (p2 + 1 + 1) 1
  have r3 := rng32 (p2 + 1 + 1 + 1)
  omega
theorem own_ik1 {p2 z : Int32} (hf0 : (0 : Int32) < p2) (hf1 : p2 < z) (hz4 : ¬ (4 : Int32) < z) (h : (p2 + (1 : Int32)) < z) : ¬ (p2 + (1 : Int32)) < 0 ∧ (p2 + (1 : Int32)) < z := ⟨by
  have z0 : (0 : Int32).toInt = 0 := rfl
  have := own_ikk hf0 hf1 hz4
  rw [Int32.lt_iff_toInt_lt]; omega, h⟩
theorem own_ik2 {p2 z : Int32} (hf0 : (0 : Int32) < p2) (hf1 : p2 < z) (hz4 : ¬ (4 : Int32) < z) (h : ((p2 + (1 : Int32)) + (1 : Int32)) < z) : ¬ ((p2 + (1 : Int32)) + (1 : Int32)) < 0 ∧ ((p2 + (1 : Int32)) + (1 : Int32)) < z := ⟨by
  have z0 : (0 : Int32).toInt = 0 := rfl
  have := own_ikk hf0 hf1 hz4
  rw [Int32.lt_iff_toInt_lt]; omega, h⟩
theorem own_ik3 {p2 z : Int32} (hf0 : (0 : Int32) < p2) (hf1 : p2 < z) (hz4 : ¬ (4 : Int32) < z) : ¬ (((p2 + (1 : Int32)) + (1 : Int32)) + (1 : Int32)) < z := by
  have z4 : (4 : Int32).toInt = 4 := rfl
  have := own_ikk hf0 hf1 hz4
  rw [Int32.lt_iff_toInt_lt] at hz4 ⊢; omega
end OwnIdx
def own_nm (n c0 c1 c2 c3 : Int32) : List Value := if n = (0 : Int32) then [] else if n = (1 : Int32) then [.int c0] else if n = (2 : Int32) then [.int c0, .int c1] else if n = (3 : Int32) then [.int c0, .int c1, .int c2] else [.int c0, .int c1, .int c2, .int c3]
theorem own_nmc0 {Z : State} {h : Heap} {t : Addr} {k : ClassId} {p c0 c1 c2 c3 : Int32} (e : p = (0 : Int32)) (F : Arv Z h t k .byte (0 : Int32) [] (.int 0)) : Arv Z h t k .byte p (own_nm p c0 c1 c2 c3) (.int 0) := by subst e; exact F
theorem own_nmc1 {Z : State} {h : Heap} {t : Addr} {k : ClassId} {p c0 c1 c2 c3 : Int32} (e : p = (1 : Int32)) (F : Arv Z h t k .byte (1 : Int32) [.int c0] (.int 0)) : Arv Z h t k .byte p (own_nm p c0 c1 c2 c3) (.int 0) := by subst e; exact F
theorem own_nmc2 {Z : State} {h : Heap} {t : Addr} {k : ClassId} {p c0 c1 c2 c3 : Int32} (e : p = (2 : Int32)) (F : Arv Z h t k .byte (2 : Int32) [.int c0, .int c1] (.int 0)) : Arv Z h t k .byte p (own_nm p c0 c1 c2 c3) (.int 0) := by subst e; exact F
theorem own_nmc3 {Z : State} {h : Heap} {t : Addr} {k : ClassId} {p c0 c1 c2 c3 : Int32} (e : p = (3 : Int32)) (F : Arv Z h t k .byte (3 : Int32) [.int c0, .int c1, .int c2] (.int 0)) : Arv Z h t k .byte p (own_nm p c0 c1 c2 c3) (.int 0) := by subst e; exact F
theorem own_nmc4 {Z : State} {h : Heap} {t : Addr} {k : ClassId} {p c0 c1 c2 c3 : Int32} (e : p = (4 : Int32)) (F : Arv Z h t k .byte (4 : Int32) [.int c0, .int c1, .int c2, .int c3] (.int 0)) : Arv Z h t k .byte p (own_nm p c0 c1 c2 c3) (.int 0) := by subst e; exact F
def own_min (a b : Int32) : Int32 := if b < a then b else a
def own_ix (z : Int32) (vs : List Value) : Int32 := (if (0 : Int32) < z then (if (own_at vs (0 : Int32)) = (58 : Int32) then (0 : Int32) else (if (1 : Int32) < z then (if (own_at vs (1 : Int32)) = (58 : Int32) then (1 : Int32) else (if (2 : Int32) < z then (if (own_at vs (2 : Int32)) = (58 : Int32) then (2 : Int32) else (if (3 : Int32) < z then (if (own_at vs (3 : Int32)) = (58 : Int32) then (3 : Int32) else (-1 : Int32)) else (-1 : Int32))) else (-1 : Int32))) else (-1 : Int32))) else (-1 : Int32))
theorem own_ixr {z : Int32} {vs : List Value} : own_ix z vs = (-1 : Int32) ∨ (¬ own_ix z vs < 0 ∧ own_ix z vs < z) := by
  unfold own_ix; repeat' split
  all_goals first | (left; rfl) | (right; constructor; decide; assumption)
theorem own_minz (z : Int32) : own_min z z = z := by unfold own_min; split <;> rfl
def own_iy (p2 z : Int32) (vs : List Value) : Int32 := (if (own_at vs p2) = (58 : Int32) then p2 else (if (p2 + (1 : Int32)) < z then (if (own_at vs (p2 + (1 : Int32))) = (58 : Int32) then (p2 + (1 : Int32)) else (if ((p2 + (1 : Int32)) + (1 : Int32)) < z then (if (own_at vs ((p2 + (1 : Int32)) + (1 : Int32))) = (58 : Int32) then ((p2 + (1 : Int32)) + (1 : Int32)) else (-1 : Int32)) else (-1 : Int32))) else (-1 : Int32)))
def own_ch (x : Int32) : Int32 := nar .char ((x &&& (255 : Int32)).toUInt32.toUInt16.toUInt32.toInt32)
def own_ns (vK : List Value) (p : Int32) : Int32 := if p < (0 : Int32) then (0 : Int32) else if p < (128 : Int32) then (if ((own_at vK p) &&& (1 : Int32)) = (0 : Int32) then (0 : Int32) else (1 : Int32)) else (0 : Int32)
def own_e3 (z : Int32) (vs xs : List Value) : Int32 := if z = (3 : Int32) then (if (own_at vs (0 : Int32)) = (own_at xs (0 : Int32)) then (if (own_at vs (1 : Int32)) = (own_at xs (1 : Int32)) then (if (own_at vs (2 : Int32)) = (own_at xs (2 : Int32)) then (1 : Int32) else (0 : Int32)) else (0 : Int32)) else (0 : Int32)) else (0 : Int32)
def own_se (u0 u1 : Addr) (z : Int32) (vs xs : List Value) : Int32 := if u0 = u1 then (1 : Int32) else if (own_e3 z vs xs) = (0 : Int32) then (0 : Int32) else (1 : Int32)
def own_is (ss ee z : Int32) (vs bs : List Value) : Int32 := if (ee - ss) = z then (if (0 : Int32) < z then (if (own_at bs ss) = (own_at vs (0 : Int32)) then (if (1 : Int32) < z then (if (own_at bs (ss + (1 : Int32))) = (own_at vs (1 : Int32)) then (if (2 : Int32) < z then (if (own_at bs (ss + (2 : Int32))) = (own_at vs (2 : Int32)) then (if (3 : Int32) < z then (if (own_at bs (ss + (3 : Int32))) = (own_at vs (3 : Int32)) then (1 : Int32) else (0 : Int32)) else (1 : Int32)) else (0 : Int32)) else (1 : Int32)) else (0 : Int32)) else (1 : Int32)) else (0 : Int32)) else (1 : Int32)) else (0 : Int32)
section OwnSub
variable {p1 p2 z : Int32}
theorem own_r1 (ha : ¬ p1 < 0) (hb : p1 < p2) (hc : ¬ z < p2) (hz4 : ¬ (4 : Int32) < z) : ¬ (4 : Int32) < (p2 - p1) ∧ ¬ (p2 - p1) < 0 ∧ (p2 - p1).toNatClampNeg ≤ 4 ∧ (p2 - p1).toInt = p2.toInt - p1.toInt := by
  have z0 : (0 : Int32).toInt = 0 := rfl
  have z4 : (4 : Int32).toInt = 4 := rfl
  rw [Int32.lt_iff_toInt_lt] at ha hb hc hz4
  have a1 := c_isub p2 p1
  have r1 := rng32 (p2 - p1)
  rw [Int32.lt_iff_toInt_lt, Int32.lt_iff_toInt_lt]; simp only [Int32.toNatClampNeg]; omega
theorem own_r2 (ha : ¬ p1 < 0) (hb : p1 < p2) (hc : ¬ z < p2) (hz4 : ¬ (4 : Int32) < z) : ¬ (own_min (z - p1) (p2 - p1)) < 0 ∧ p1.toNatClampNeg + (own_min (z - p1) (p2 - p1)).toNatClampNeg ≤ z.toNatClampNeg ∧ (0 : Int32).toNatClampNeg + (own_min (z - p1) (p2 - p1)).toNatClampNeg ≤ (p2 - p1).toNatClampNeg ∧ (0 : Int32).toNatClampNeg + (own_min (z - p1) (p2 - p1)).toNatClampNeg ≤ (List.replicate 4 (Value.int 0)).length := by
  have z0 : (0 : Int32).toInt = 0 := rfl
  have z4 : (4 : Int32).toInt = 4 := rfl
  obtain ⟨h1, h2, h3, h4⟩ := own_r1 ha hb hc hz4
  rw [Int32.lt_iff_toInt_lt] at ha hb hc hz4 h1 h2
  have a2 := c_isub z p1
  have r2 := rng32 (z - p1)
  unfold own_min
  simp only [Int32.lt_iff_toInt_lt, Int32.toNatClampNeg, List.length_replicate]
  split <;> omega
theorem own_n3 (ha : ¬ p1 < 0) (hb : (0 : Int32) < p2) (hc : ¬ z < (p1 + p2)) (he : ¬ z < p1) (hg : ¬ z < p2) (hz4 : ¬ (4 : Int32) < z) : p1 < (p1 + p2) ∧ ((p1 = 0 → ¬ p2 = z) → p1 = 0 → ¬ (p1 + p2) = z) := by
  have z0 : (0 : Int32).toInt = 0 := rfl
  have z4 : (4 : Int32).toInt = 4 := rfl
  have a1 := c_iadd p1 p2
  have r1 := rng32 (p1 + p2)
  refine ⟨?_, fun h e => ?_⟩
  · rw [Int32.lt_iff_toInt_lt] at *; omega
  · have := h e; subst e; rwa [own_za]
theorem own_s2 (ha : ¬ p1 < 0) (hb : p1 < p2) (hc : ¬ z < p2) (hz4 : ¬ (4 : Int32) < z) : (0 : Int32) < (p2 - p1) ∧ ¬ z < (p1 + (p2 - p1)) ∧ ¬ z < p1 ∧ ¬ z < (p2 - p1) := by
  have z0 : (0 : Int32).toInt = 0 := rfl
  have z4 : (4 : Int32).toInt = 4 := rfl
  obtain ⟨h1, h2, h3, h4⟩ := own_r1 ha hb hc hz4
  have a1 := c_iadd p1 (p2 - p1)
  have r1 := rng32 (p1 + (p2 - p1))
  simp only [Int32.lt_iff_toInt_lt] at *; omega
theorem own_s2d (hd : p1 = 0 → ¬ p2 = z) : p1 = 0 → ¬ (p2 - p1) = z := fun e => by
  have := hd e; subst e; simpa using this
end OwnSub
theorem own_q1 {r z : Int32} (hr : r = (-1 : Int32) ∨ (¬ r < 0 ∧ r < z)) (h0 : (0 : Int32) < r) (h1 : r < (z - (1 : Int32))) (hz4 : ¬ (4 : Int32) < z) : (0 : Int32) < (r + (1 : Int32)) ∧ (r + (1 : Int32)) < z := by
  have z0 : (0 : Int32).toInt = 0 := rfl
  have z4 : (4 : Int32).toInt = 4 := rfl
  have z1 : (1 : Int32).toInt = 1 := rfl
  have m1 : (-1 : Int32).toInt = -1 := rfl
  have a1 := c_iadd r 1
  have r1 := rng32 (r + 1)
  have a2 := c_isub z 1
  have r2 := rng32 (z - 1)
  simp only [Int32.lt_iff_toInt_lt, ← Int32.toInt_inj] at *; omega
theorem own_q2 {r z : Int32} (hr : r = (-1 : Int32) ∨ (¬ r < 0 ∧ r < z)) (h0 : ¬ r < (0 : Int32)) (h1 : ¬ r = (0 : Int32)) : (0 : Int32) < r ∧ ¬ z < r ∧ ¬ r = z := by
  have z0 : (0 : Int32).toInt = 0 := rfl
  have m1 : (-1 : Int32).toInt = -1 := rfl
  simp only [Int32.lt_iff_toInt_lt, ← Int32.toInt_inj] at *; omega
theorem own_q3 {r z : Int32} (hr : r = (-1 : Int32) ∨ (¬ r < 0 ∧ r < z)) (h0 : ¬ r < (0 : Int32)) : ¬ z < (0 : Int32) ∧ ¬ (0 : Int32) = z := by
  have z0 : (0 : Int32).toInt = 0 := rfl
  have m1 : (-1 : Int32).toInt = -1 := rfl
  simp only [Int32.lt_iff_toInt_lt, ← Int32.toInt_inj] at *; omega
theorem own_q4 {r z : Int32} (hr : r = (-1 : Int32) ∨ (¬ r < 0 ∧ r < z)) (h0 : ¬ r < (0 : Int32)) (hz4 : ¬ (4 : Int32) < z) (h1 : ¬ (r + (1 : Int32)) = z) : (0 : Int32) < (r + (1 : Int32)) ∧ (r + (1 : Int32)) < z := by
  have z0 : (0 : Int32).toInt = 0 := rfl
  have z4 : (4 : Int32).toInt = 4 := rfl
  have z1 : (1 : Int32).toInt = 1 := rfl
  have m1 : (-1 : Int32).toInt = -1 := rfl
  have a1 := c_iadd r 1
  have r1 := rng32 (r + 1)
  simp only [Int32.lt_iff_toInt_lt, ← Int32.toInt_inj] at *; omega
theorem own_q5 {r z : Int32} (hr : r = (-1 : Int32) ∨ (¬ r < 0 ∧ r < z)) (h0 : ¬ r < (0 : Int32)) : (0 : Int32) < z := by
  have z0 : (0 : Int32).toInt = 0 := rfl
  have m1 : (-1 : Int32).toInt = -1 := rfl
  simp only [Int32.lt_iff_toInt_lt, ← Int32.toInt_inj] at *; omega
theorem own_n5 {z : Int32} (h : ¬ (4 : Int32) < z) : ¬ z = (5 : Int32) := fun e => by subst e; exact h (by decide)
theorem own_posL {vs : List Value} (h : ∀ n : Nat, ¬ (match vs.getD n (.int 0) with | .int x => x | _ => (0 : Int32)) < 0) : ∀ j : Int32, ¬ j < 0 → ¬ (own_at vs j) < 0 := fun j _ => h j.toNatClampNeg
theorem own_neX {Z : State} {h : Heap} {a b : Addr} {C K : String} (E : Exa Z h a C) (F : Exa Z h b K) (q : C ≠ K) : a ≠ b := fun e => by
  subst e
  obtain ⟨c1, k1, h1, h2, -⟩ := E
  obtain ⟨c2, k2, g1, g2, -⟩ := F
  cases h1.symm.trans g1
  exact ids_ne h2 g2 q rfl
section OwnLen
variable {args : Array Value} {s : State} {t : Term} {cl : Cell} {k : Int32}
theorem own_len (h : (Term.length t).eval args s none [] s = some (.int k)) {a : Addr} (ht : t.eval args s none [] s = some (.ref a)) (A : Arr s s.heap a cl .byte) : cl.slots.size < 2 ^ 31 ∧ cl.slots.size.toInt32 = k := by
  have ha : s.arrayAt? a = some cl := Arr.fin (Vm.Alike.refl _) A
  by_cases hl : cl.slots.size < 2 ^ 31
  · rw [len_f ht ha hl] at h; cases h; exact ⟨hl, rfl⟩
  · simp [Term.eval, ht, ha, hl] at h
end OwnLen
theorem own_n4 {p : Int32} (h : p = (0 : Int32) ∨ p = (1 : Int32) ∨ p = (2 : Int32) ∨ p = (3 : Int32) ∨ p = (4 : Int32)) (h0 : ¬ p = (0 : Int32)) (h1 : ¬ p = (1 : Int32)) (h2 : ¬ p = (2 : Int32)) (h3 : ¬ p = (3 : Int32)) : p = (4 : Int32) := by
  rcases h with h | h | h | h | h
  · exact absurd h h0
  · exact absurd h h1
  · exact absurd h h2
  · exact absurd h h3
  · exact h
theorem own_z4 {n : Int32} (h : n = (0 : Int32) ∨ n = (1 : Int32) ∨ n = (2 : Int32) ∨ n = (3 : Int32) ∨ n = (4 : Int32)) : ¬ (4 : Int32) < n := by rcases h with rfl | rfl | rfl | rfl | rfl <;> decide
theorem own_lx {a b n : Int32} (hab : a < b) (h : ¬ a < n) : ¬ b < n := by
  rw [Int32.lt_iff_toInt_lt] at *; omega
theorem own_ly {a b n : Int32} (hab : a < b) (h : n < a) : n < b := by
  rw [Int32.lt_iff_toInt_lt] at *; omega
theorem own_nmpos {n c0 c1 c2 c3 : Int32} (h0 : ¬ c0 < 0 ∧ ¬ (127 : Int32) < c0) (h1 : ¬ c1 < 0 ∧ ¬ (127 : Int32) < c1) (h2 : ¬ c2 < 0 ∧ ¬ (127 : Int32) < c2) (h3 : ¬ c3 < 0 ∧ ¬ (127 : Int32) < c3) : ∀ j : Int32, ¬ j < 0 → ¬ (own_at (own_nm n c0 c1 c2 c3) j) < 0 := by
  have z : ¬ (0 : Int32) < 0 := by decide
  have key : ∀ vs : List Value, (∀ x ∈ vs, ∃ c : Int32, x = .int c ∧ ¬ c < 0) → ∀ k : Nat, ¬ (match vs.getD k (.int 0) with | .int x => x | _ => (0 : Int32)) < 0 := fun vs h k => by
    by_cases hk : k < vs.length
    · obtain ⟨c, e1, e2⟩ := h _ (List.getElem_mem hk)
      rw [List.getD_eq_getElem?_getD, List.getElem?_eq_getElem hk, e1]; exact e2
    · rw [List.getD_eq_getElem?_getD, List.getElem?_eq_none (Nat.le_of_not_lt hk)]; exact z
  refine own_posL (key _ fun x hx => ?_)
  have q : x = .int c0 ∨ x = .int c1 ∨ x = .int c2 ∨ x = .int c3 := by
    unfold own_nm at hx
    repeat' split at hx
    · cases hx
    all_goals simp only [List.mem_cons, List.not_mem_nil, or_false] at hx
    · exact Or.inl hx
    · rcases hx with h | h
      · exact Or.inl h
      · exact Or.inr (Or.inl h)
    · rcases hx with h | h | h
      · exact Or.inl h
      · exact Or.inr (Or.inl h)
      · exact Or.inr (Or.inr (Or.inl h))
    · exact hx
  rcases q with rfl | rfl | rfl | rfl
  · exact ⟨_, rfl, h0.1⟩
  · exact ⟨_, rfl, h1.1⟩
  · exact ⟨_, rfl, h2.1⟩
  · exact ⟨_, rfl, h3.1⟩
theorem own_gp0 {n : Int32} (h : ¬ n < (1 : Int32)) : (0 : Int32) < n := by
  have z0 : (0 : Int32).toInt = 0 := rfl
  have z1 : (1 : Int32).toInt = 1 := rfl
  rw [Int32.lt_iff_toInt_lt] at *; omega
theorem own_gn0 {n : Int32} (h : n < (1 : Int32)) : ¬ (0 : Int32) < n := by
  have z0 : (0 : Int32).toInt = 0 := rfl
  have z1 : (1 : Int32).toInt = 1 := rfl
  rw [Int32.lt_iff_toInt_lt] at *; omega
theorem own_nma0 {n c0 c1 c2 c3 : Int32} (h : n = (0 : Int32) ∨ n = (1 : Int32) ∨ n = (2 : Int32) ∨ n = (3 : Int32) ∨ n = (4 : Int32)) (g : (0 : Int32) < n) : own_at (own_nm n c0 c1 c2 c3) (0 : Int32) = c0 := by
  rcases h with rfl | rfl | rfl | rfl | rfl
  all_goals first | rfl | exact absurd g (by decide)
theorem own_gp1 {n : Int32} (h : ¬ n < (2 : Int32)) : (1 : Int32) < n := by
  have z0 : (1 : Int32).toInt = 1 := rfl
  have z1 : (2 : Int32).toInt = 2 := rfl
  rw [Int32.lt_iff_toInt_lt] at *; omega
theorem own_gn1 {n : Int32} (h : n < (2 : Int32)) : ¬ (1 : Int32) < n := by
  have z0 : (1 : Int32).toInt = 1 := rfl
  have z1 : (2 : Int32).toInt = 2 := rfl
  rw [Int32.lt_iff_toInt_lt] at *; omega
theorem own_nma1 {n c0 c1 c2 c3 : Int32} (h : n = (0 : Int32) ∨ n = (1 : Int32) ∨ n = (2 : Int32) ∨ n = (3 : Int32) ∨ n = (4 : Int32)) (g : (1 : Int32) < n) : own_at (own_nm n c0 c1 c2 c3) (1 : Int32) = c1 := by
  rcases h with rfl | rfl | rfl | rfl | rfl
  all_goals first | rfl | exact absurd g (by decide)
theorem own_gp2 {n : Int32} (h : ¬ n < (3 : Int32)) : (2 : Int32) < n := by
  have z0 : (2 : Int32).toInt = 2 := rfl
  have z1 : (3 : Int32).toInt = 3 := rfl
  rw [Int32.lt_iff_toInt_lt] at *; omega
theorem own_gn2 {n : Int32} (h : n < (3 : Int32)) : ¬ (2 : Int32) < n := by
  have z0 : (2 : Int32).toInt = 2 := rfl
  have z1 : (3 : Int32).toInt = 3 := rfl
  rw [Int32.lt_iff_toInt_lt] at *; omega
theorem own_nma2 {n c0 c1 c2 c3 : Int32} (h : n = (0 : Int32) ∨ n = (1 : Int32) ∨ n = (2 : Int32) ∨ n = (3 : Int32) ∨ n = (4 : Int32)) (g : (2 : Int32) < n) : own_at (own_nm n c0 c1 c2 c3) (2 : Int32) = c2 := by
  rcases h with rfl | rfl | rfl | rfl | rfl
  all_goals first | rfl | exact absurd g (by decide)
theorem own_gp3 {n : Int32} (h : ¬ n < (4 : Int32)) : (3 : Int32) < n := by
  have z0 : (3 : Int32).toInt = 3 := rfl
  have z1 : (4 : Int32).toInt = 4 := rfl
  rw [Int32.lt_iff_toInt_lt] at *; omega
theorem own_gn3 {n : Int32} (h : n < (4 : Int32)) : ¬ (3 : Int32) < n := by
  have z0 : (3 : Int32).toInt = 3 := rfl
  have z1 : (4 : Int32).toInt = 4 := rfl
  rw [Int32.lt_iff_toInt_lt] at *; omega
theorem own_nma3 {n c0 c1 c2 c3 : Int32} (h : n = (0 : Int32) ∨ n = (1 : Int32) ∨ n = (2 : Int32) ∨ n = (3 : Int32) ∨ n = (4 : Int32)) (g : (3 : Int32) < n) : own_at (own_nm n c0 c1 c2 c3) (3 : Int32) = c3 := by
  rcases h with rfl | rfl | rfl | rfl | rfl
  all_goals first | rfl | exact absurd g (by decide)
abbrev Bc23 := jdk_52_method_21_code
theorem d23_0 : decode Bc23 0 = .ok (.iconst 0, 1) := by decide +kernel
theorem d23_1 : decode Bc23 1 = .ok (.istore 5, 2) := by decide +kernel
theorem d23_3 : decode Bc23 3 = .ok (.iload 5, 2) := by decide +kernel
theorem d23_5 : decode Bc23 5 = .ok (.iload 4, 2) := by decide +kernel
theorem d23_7 : decode Bc23 7 = .ok (.if_icmp .ge 37, 3) := by decide +kernel
theorem d23_10 : decode Bc23 10 = .ok (.aload_n 0, 1) := by decide +kernel
theorem d23_11 : decode Bc23 11 = .ok (.iload_n 1, 1) := by decide +kernel
theorem d23_12 : decode Bc23 12 = .ok (.caload, 1) := by decide +kernel
theorem d23_13 : decode Bc23 13 = .ok (.istore 6, 2) := by decide +kernel
theorem d23_15 : decode Bc23 15 = .ok (.iload 6, 2) := by decide +kernel
theorem d23_17 : decode Bc23 17 = .ok (.sipush 255, 3) := by decide +kernel
theorem d23_20 : decode Bc23 20 = .ok (.if_icmp .le 6, 3) := by decide +kernel
theorem d23_26 : decode Bc23 26 = .ok (.aload_n 2, 1) := by decide +kernel
theorem d23_27 : decode Bc23 27 = .ok (.iload_n 3, 1) := by decide +kernel
theorem d23_28 : decode Bc23 28 = .ok (.iload 6, 2) := by decide +kernel
theorem d23_30 : decode Bc23 30 = .ok (.i2b, 1) := by decide +kernel
theorem d23_31 : decode Bc23 31 = .ok (.bastore, 1) := by decide +kernel
theorem d23_32 : decode Bc23 32 = .ok (.iinc 1 1, 3) := by decide +kernel
theorem d23_35 : decode Bc23 35 = .ok (.iinc 3 1, 3) := by decide +kernel
theorem d23_38 : decode Bc23 38 = .ok (.iinc 5 1, 3) := by decide +kernel
theorem d23_41 : decode Bc23 41 = .ok (.goto (-38), 3) := by decide +kernel
theorem d23_44 : decode Bc23 44 = .ok (.iload 4, 2) := by decide +kernel
theorem d23_46 : decode Bc23 46 = .ok (.ireturn, 1) := by decide +kernel
theorem pn_23 : plainName "java/lang/StringUTF16" = true := by first | (simp [plainName, overriddenIn]; done) | decide +kernel
abbrev Bc22 := jdk_52_method_16_code
theorem d22_0 : decode Bc22 0 = .ok (.iload_n 2, 1) := by decide +kernel
theorem d22_1 : decode Bc22 1 = .ok (.newarray .byte, 2) := by decide +kernel
theorem d22_3 : decode Bc22 3 = .ok (.astore_n 3, 1) := by decide +kernel
theorem d22_4 : decode Bc22 4 = .ok (.aload_n 0, 1) := by decide +kernel
theorem d22_5 : decode Bc22 5 = .ok (.iload_n 1, 1) := by decide +kernel
theorem d22_6 : decode Bc22 6 = .ok (.aload_n 3, 1) := by decide +kernel
theorem d22_7 : decode Bc22 7 = .ok (.iconst 0, 1) := by decide +kernel
theorem d22_8 : decode Bc22 8 = .ok (.iload_n 2, 1) := by decide +kernel
theorem d22_9 : decode Bc22 9 = .ok (.invokestatic 115, 3) := by decide +kernel
theorem pd___CI_BII_I : parseMethodDescriptor "([CI[BII)I" = some ⟨[(.array .char), .int, (.array .byte), .int, .int], some .int⟩ := by decide +kernel
theorem d22_12 : decode Bc22 12 = .ok (.istore 4, 2) := by decide +kernel
theorem d22_14 : decode Bc22 14 = .ok (.iload 4, 2) := by decide +kernel
theorem d22_16 : decode Bc22 16 = .ok (.iload_n 2, 1) := by decide +kernel
theorem d22_17 : decode Bc22 17 = .ok (.if_icmp .eq 40, 3) := by decide +kernel
theorem d22_57 : decode Bc22 57 = .ok (.aload_n 3, 1) := by decide +kernel
theorem d22_58 : decode Bc22 58 = .ok (.areturn, 1) := by decide +kernel
theorem pn_22 : plainName "java/lang/StringUTF16" = true := by first | (simp [plainName, overriddenIn]; done) | decide +kernel
abbrev Bc24 := jdk_52_method_15_code
theorem d24_0 : decode Bc24 0 = .ok (.iload_n 1, 1) := by decide +kernel
theorem d24_1 : decode Bc24 1 = .ok (.aload_n 0, 1) := by decide +kernel
theorem d24_2 : decode Bc24 2 = .ok (.arraylength, 1) := by decide +kernel
theorem d24_3 : decode Bc24 3 = .ok (.isub, 1) := by decide +kernel
theorem d24_4 : decode Bc24 4 = .ok (.bipush 31, 2) := by decide +kernel
theorem d24_6 : decode Bc24 6 = .ok (.iushr, 1) := by decide +kernel
theorem d24_7 : decode Bc24 7 = .ok (.i2b, 1) := by decide +kernel
theorem d24_8 : decode Bc24 8 = .ok (.ireturn, 1) := by decide +kernel
theorem pn_24 : plainName "java/lang/StringUTF16" = true := by first | (simp [plainName, overriddenIn]; done) | decide +kernel
abbrev Bc3 := jdk_42_method_149_code
theorem d3_0 : decode Bc3 0 = .ok (.aload_n 0, 1) := by decide +kernel
theorem d3_1 : decode Bc3 1 = .ok (.invokespecial 1, 3) := by decide +kernel
theorem d3_4 : decode Bc3 4 = .ok (.iload_n 3, 1) := by decide +kernel
theorem d3_5 : decode Bc3 5 = .ok (.ifCond .ne 22, 3) := by decide +kernel
theorem d3_27 : decode Bc3 27 = .ok (.getstatic 38, 3) := by decide +kernel
theorem d3_30 : decode Bc3 30 = .ok (.ifCond .eq 28, 3) := by decide +kernel
theorem d3_33 : decode Bc3 33 = .ok (.aload_n 1, 1) := by decide +kernel
theorem d3_34 : decode Bc3 34 = .ok (.iload_n 2, 1) := by decide +kernel
theorem d3_35 : decode Bc3 35 = .ok (.iload_n 3, 1) := by decide +kernel
theorem d3_36 : decode Bc3 36 = .ok (.invokestatic 177, 3) := by decide +kernel
theorem pd___CII__B : parseMethodDescriptor "([CII)[B" = some ⟨[(.array .char), .int, .int], some (.array .byte)⟩ := by decide +kernel
theorem d3_39 : decode Bc3 39 = .ok (.astore 5, 2) := by decide +kernel
theorem d3_41 : decode Bc3 41 = .ok (.aload_n 0, 1) := by decide +kernel
theorem d3_42 : decode Bc3 42 = .ok (.aload 5, 2) := by decide +kernel
theorem d3_44 : decode Bc3 44 = .ok (.iload_n 3, 1) := by decide +kernel
theorem d3_45 : decode Bc3 45 = .ok (.invokestatic 47, 3) := by decide +kernel
theorem pd___BI_B : parseMethodDescriptor "([BI)B" = some ⟨[(.array .byte), .int], some .byte⟩ := by decide +kernel
theorem d3_48 : decode Bc3 48 = .ok (.putfield 15, 3) := by decide +kernel
theorem d3_51 : decode Bc3 51 = .ok (.aload_n 0, 1) := by decide +kernel
theorem d3_52 : decode Bc3 52 = .ok (.aload 5, 2) := by decide +kernel
theorem d3_54 : decode Bc3 54 = .ok (.putfield 9, 3) := by decide +kernel
theorem d3_57 : decode Bc3 57 = .ok (.return_, 1) := by decide +kernel
theorem pn_3 : plainName "java/lang/String" = true := by first | (simp [plainName, overriddenIn]; done) | decide +kernel
abbrev Bc2 := jdk_42_method_3_code
theorem d2_0 : decode Bc2 0 = .ok (.aload_n 0, 1) := by decide +kernel
theorem d2_1 : decode Bc2 1 = .ok (.aload_n 1, 1) := by decide +kernel
theorem d2_2 : decode Bc2 2 = .ok (.iconst 0, 1) := by decide +kernel
theorem d2_3 : decode Bc2 3 = .ok (.aload_n 1, 1) := by decide +kernel
theorem d2_4 : decode Bc2 4 = .ok (.arraylength, 1) := by decide +kernel
theorem d2_5 : decode Bc2 5 = .ok (.aconst_null, 1) := by decide +kernel
theorem d2_6 : decode Bc2 6 = .ok (.invokespecial 27, 3) := by decide +kernel
theorem pd___CIILjava_lang_Void__V : parseMethodDescriptor "([CIILjava/lang/Void;)V" = some ⟨[(.array .char), .int, .int, (.object "java/lang/Void")], none⟩ := by decide +kernel
theorem d2_9 : decode Bc2 9 = .ok (.return_, 1) := by decide +kernel
theorem pn_2 : plainName "java/lang/String" = true := by first | (simp [plainName, overriddenIn]; done) | decide +kernel
theorem d3_8 : decode Bc3 8 = .ok (.aload_n 0, 1) := by decide +kernel
theorem d3_9 : decode Bc3 9 = .ok (.ldc 7, 2) := by decide +kernel
theorem d3_11 : decode Bc3 11 = .ok (.getfield 9, 3) := by decide +kernel
theorem d3_14 : decode Bc3 14 = .ok (.putfield 9, 3) := by decide +kernel
theorem d3_17 : decode Bc3 17 = .ok (.aload_n 0, 1) := by decide +kernel
theorem d3_18 : decode Bc3 18 = .ok (.ldc 7, 2) := by decide +kernel
theorem d3_20 : decode Bc3 20 = .ok (.getfield 15, 3) := by decide +kernel
theorem d3_23 : decode Bc3 23 = .ok (.putfield 15, 3) := by decide +kernel
theorem d3_26 : decode Bc3 26 = .ok (.return_, 1) := by decide +kernel
abbrev Bc1 := method_2_code
theorem d1_0 : decode Bc1 0 = .ok (.iload_n 0, 1) := by decide +kernel
theorem d1_1 : decode Bc1 1 = .ok (.ifCond .ne 14, 3) := by decide +kernel
theorem d1_4 : decode Bc1 4 = .ok (.new 7, 3) := by decide +kernel
theorem d1_7 : decode Bc1 7 = .ok (.dup, 1) := by decide +kernel
theorem d1_8 : decode Bc1 8 = .ok (.iconst 0, 1) := by decide +kernel
theorem d1_9 : decode Bc1 9 = .ok (.newarray .char, 2) := by decide +kernel
theorem d1_11 : decode Bc1 11 = .ok (.invokespecial 9, 3) := by decide +kernel
theorem pd___C_V : parseMethodDescriptor "([C)V" = some ⟨[(.array .char)], none⟩ := by decide +kernel
theorem d1_14 : decode Bc1 14 = .ok (.areturn, 1) := by decide +kernel
theorem d1_15 : decode Bc1 15 = .ok (.iload_n 0, 1) := by decide +kernel
theorem d1_16 : decode Bc1 16 = .ok (.iconst 1, 1) := by decide +kernel
theorem d1_17 : decode Bc1 17 = .ok (.if_icmp .ne 18, 3) := by decide +kernel
theorem d1_20 : decode Bc1 20 = .ok (.new 7, 3) := by decide +kernel
theorem d1_23 : decode Bc1 23 = .ok (.dup, 1) := by decide +kernel
theorem d1_24 : decode Bc1 24 = .ok (.iconst 1, 1) := by decide +kernel
theorem d1_25 : decode Bc1 25 = .ok (.newarray .char, 2) := by decide +kernel
theorem d1_27 : decode Bc1 27 = .ok (.dup, 1) := by decide +kernel
theorem d1_28 : decode Bc1 28 = .ok (.iconst 0, 1) := by decide +kernel
theorem d1_29 : decode Bc1 29 = .ok (.iload_n 1, 1) := by decide +kernel
theorem d1_30 : decode Bc1 30 = .ok (.castore, 1) := by decide +kernel
theorem d1_31 : decode Bc1 31 = .ok (.invokespecial 9, 3) := by decide +kernel
theorem d1_34 : decode Bc1 34 = .ok (.areturn, 1) := by decide +kernel
theorem d1_35 : decode Bc1 35 = .ok (.iload_n 0, 1) := by decide +kernel
theorem d1_36 : decode Bc1 36 = .ok (.iconst 2, 1) := by decide +kernel
theorem d1_37 : decode Bc1 37 = .ok (.if_icmp .ne 22, 3) := by decide +kernel
theorem d1_40 : decode Bc1 40 = .ok (.new 7, 3) := by decide +kernel
theorem d1_43 : decode Bc1 43 = .ok (.dup, 1) := by decide +kernel
theorem d1_44 : decode Bc1 44 = .ok (.iconst 2, 1) := by decide +kernel
theorem d1_45 : decode Bc1 45 = .ok (.newarray .char, 2) := by decide +kernel
theorem d1_47 : decode Bc1 47 = .ok (.dup, 1) := by decide +kernel
theorem d1_48 : decode Bc1 48 = .ok (.iconst 0, 1) := by decide +kernel
theorem d1_49 : decode Bc1 49 = .ok (.iload_n 1, 1) := by decide +kernel
theorem d1_50 : decode Bc1 50 = .ok (.castore, 1) := by decide +kernel
theorem d1_51 : decode Bc1 51 = .ok (.dup, 1) := by decide +kernel
theorem d1_52 : decode Bc1 52 = .ok (.iconst 1, 1) := by decide +kernel
theorem d1_53 : decode Bc1 53 = .ok (.iload_n 2, 1) := by decide +kernel
theorem d1_54 : decode Bc1 54 = .ok (.castore, 1) := by decide +kernel
theorem d1_55 : decode Bc1 55 = .ok (.invokespecial 9, 3) := by decide +kernel
theorem d1_58 : decode Bc1 58 = .ok (.areturn, 1) := by decide +kernel
theorem d1_59 : decode Bc1 59 = .ok (.iload_n 0, 1) := by decide +kernel
theorem d1_60 : decode Bc1 60 = .ok (.iconst 3, 1) := by decide +kernel
theorem d1_61 : decode Bc1 61 = .ok (.if_icmp .ne 26, 3) := by decide +kernel
theorem d1_64 : decode Bc1 64 = .ok (.new 7, 3) := by decide +kernel
theorem d1_67 : decode Bc1 67 = .ok (.dup, 1) := by decide +kernel
theorem d1_68 : decode Bc1 68 = .ok (.iconst 3, 1) := by decide +kernel
theorem d1_69 : decode Bc1 69 = .ok (.newarray .char, 2) := by decide +kernel
theorem d1_71 : decode Bc1 71 = .ok (.dup, 1) := by decide +kernel
theorem d1_72 : decode Bc1 72 = .ok (.iconst 0, 1) := by decide +kernel
theorem d1_73 : decode Bc1 73 = .ok (.iload_n 1, 1) := by decide +kernel
theorem d1_74 : decode Bc1 74 = .ok (.castore, 1) := by decide +kernel
theorem d1_75 : decode Bc1 75 = .ok (.dup, 1) := by decide +kernel
theorem d1_76 : decode Bc1 76 = .ok (.iconst 1, 1) := by decide +kernel
theorem d1_77 : decode Bc1 77 = .ok (.iload_n 2, 1) := by decide +kernel
theorem d1_78 : decode Bc1 78 = .ok (.castore, 1) := by decide +kernel
theorem d1_79 : decode Bc1 79 = .ok (.dup, 1) := by decide +kernel
theorem d1_80 : decode Bc1 80 = .ok (.iconst 2, 1) := by decide +kernel
theorem d1_81 : decode Bc1 81 = .ok (.iload_n 3, 1) := by decide +kernel
theorem d1_82 : decode Bc1 82 = .ok (.castore, 1) := by decide +kernel
theorem d1_83 : decode Bc1 83 = .ok (.invokespecial 9, 3) := by decide +kernel
theorem d1_86 : decode Bc1 86 = .ok (.areturn, 1) := by decide +kernel
theorem d1_87 : decode Bc1 87 = .ok (.new 7, 3) := by decide +kernel
theorem d1_90 : decode Bc1 90 = .ok (.dup, 1) := by decide +kernel
theorem d1_91 : decode Bc1 91 = .ok (.iconst 4, 1) := by decide +kernel
theorem d1_92 : decode Bc1 92 = .ok (.newarray .char, 2) := by decide +kernel
theorem d1_94 : decode Bc1 94 = .ok (.dup, 1) := by decide +kernel
theorem d1_95 : decode Bc1 95 = .ok (.iconst 0, 1) := by decide +kernel
theorem d1_96 : decode Bc1 96 = .ok (.iload_n 1, 1) := by decide +kernel
theorem d1_97 : decode Bc1 97 = .ok (.castore, 1) := by decide +kernel
theorem d1_98 : decode Bc1 98 = .ok (.dup, 1) := by decide +kernel
theorem d1_99 : decode Bc1 99 = .ok (.iconst 1, 1) := by decide +kernel
theorem d1_100 : decode Bc1 100 = .ok (.iload_n 2, 1) := by decide +kernel
theorem d1_101 : decode Bc1 101 = .ok (.castore, 1) := by decide +kernel
theorem d1_102 : decode Bc1 102 = .ok (.dup, 1) := by decide +kernel
theorem d1_103 : decode Bc1 103 = .ok (.iconst 2, 1) := by decide +kernel
theorem d1_104 : decode Bc1 104 = .ok (.iload_n 3, 1) := by decide +kernel
theorem d1_105 : decode Bc1 105 = .ok (.castore, 1) := by decide +kernel
theorem d1_106 : decode Bc1 106 = .ok (.dup, 1) := by decide +kernel
theorem d1_107 : decode Bc1 107 = .ok (.iconst 3, 1) := by decide +kernel
theorem d1_108 : decode Bc1 108 = .ok (.iload 4, 2) := by decide +kernel
theorem d1_110 : decode Bc1 110 = .ok (.castore, 1) := by decide +kernel
theorem d1_111 : decode Bc1 111 = .ok (.invokespecial 9, 3) := by decide +kernel
theorem d1_114 : decode Bc1 114 = .ok (.areturn, 1) := by decide +kernel
theorem pn_1 : plainName "com/example/bundlewright/bundlewright/core/NameIsPinLaw" = true := by first | (simp [plainName, overriddenIn]; done) | decide +kernel
abbrev Bc7 := jdk_42_method_152_code
theorem d7_0 : decode Bc7 0 = .ok (.getstatic 38, 3) := by decide +kernel
theorem d7_3 : decode Bc7 3 = .ok (.ifCond .eq 10, 3) := by decide +kernel
theorem d7_6 : decode Bc7 6 = .ok (.aload_n 0, 1) := by decide +kernel
theorem d7_7 : decode Bc7 7 = .ok (.getfield 15, 3) := by decide +kernel
theorem d7_10 : decode Bc7 10 = .ok (.goto 4, 3) := by decide +kernel
theorem d7_14 : decode Bc7 14 = .ok (.ireturn, 1) := by decide +kernel
theorem pn_7 : plainName "java/lang/String" = true := by first | (simp [plainName, overriddenIn]; done) | decide +kernel
abbrev Bc13 := jdk_42_method_154_code
theorem d13_0 : decode Bc13 0 = .ok (.getstatic 38, 3) := by decide +kernel
theorem d13_3 : decode Bc13 3 = .ok (.ifCond .eq 14, 3) := by decide +kernel
theorem d13_6 : decode Bc13 6 = .ok (.aload_n 0, 1) := by decide +kernel
theorem d13_7 : decode Bc13 7 = .ok (.getfield 15, 3) := by decide +kernel
theorem d13_10 : decode Bc13 10 = .ok (.ifCond .ne 7, 3) := by decide +kernel
theorem d13_13 : decode Bc13 13 = .ok (.iconst 1, 1) := by decide +kernel
theorem d13_14 : decode Bc13 14 = .ok (.goto 4, 3) := by decide +kernel
theorem d13_18 : decode Bc13 18 = .ok (.ireturn, 1) := by decide +kernel
theorem pn_13 : plainName "java/lang/String" = true := by first | (simp [plainName, overriddenIn]; done) | decide +kernel
abbrev Bc14 := jdk_42_method_54_code
theorem d14_0 : decode Bc14 0 = .ok (.aload_n 0, 1) := by decide +kernel
theorem d14_1 : decode Bc14 1 = .ok (.getfield 9, 3) := by decide +kernel
theorem d14_4 : decode Bc14 4 = .ok (.arraylength, 1) := by decide +kernel
theorem d14_5 : decode Bc14 5 = .ok (.aload_n 0, 1) := by decide +kernel
theorem d14_6 : decode Bc14 6 = .ok (.invokevirtual 335, 3) := by decide +kernel
theorem pd___B : parseMethodDescriptor "()B" = some ⟨[], some .byte⟩ := by decide +kernel
theorem d14_9 : decode Bc14 9 = .ok (.ishr, 1) := by decide +kernel
theorem d14_10 : decode Bc14 10 = .ok (.ireturn, 1) := by decide +kernel
theorem pn_14 : plainName "java/lang/String" = true := by first | (simp [plainName, overriddenIn]; done) | decide +kernel
abbrev Bc17 := jdk_29_method_65_code
theorem d17_0 : decode Bc17 0 = .ok (.iload_n 0, 1) := by decide +kernel
theorem d17_1 : decode Bc17 1 = .ok (.iload_n 1, 1) := by decide +kernel
theorem d17_2 : decode Bc17 2 = .ok (.if_icmp .lt 7, 3) := by decide +kernel
theorem d17_5 : decode Bc17 5 = .ok (.iload_n 0, 1) := by decide +kernel
theorem d17_6 : decode Bc17 6 = .ok (.goto 4, 3) := by decide +kernel
theorem d17_10 : decode Bc17 10 = .ok (.ireturn, 1) := by decide +kernel
abbrev Bc18 := jdk_29_method_69_code
theorem d18_0 : decode Bc18 0 = .ok (.iload_n 0, 1) := by decide +kernel
theorem d18_1 : decode Bc18 1 = .ok (.iload_n 1, 1) := by decide +kernel
theorem d18_2 : decode Bc18 2 = .ok (.if_icmp .gt 7, 3) := by decide +kernel
theorem d18_9 : decode Bc18 9 = .ok (.iload_n 1, 1) := by decide +kernel
theorem d18_10 : decode Bc18 10 = .ok (.ireturn, 1) := by decide +kernel
theorem d18_5 : decode Bc18 5 = .ok (.iload_n 0, 1) := by decide +kernel
theorem d18_6 : decode Bc18 6 = .ok (.goto 4, 3) := by decide +kernel
abbrev Bc16 := jdk_43_method_4_code
theorem d16_0 : decode Bc16 0 = .ok (.iload_n 0, 1) := by decide +kernel
theorem d16_1 : decode Bc16 1 = .ok (.ifCond .lt 14, 3) := by decide +kernel
theorem d16_4 : decode Bc16 4 = .ok (.iload_n 0, 1) := by decide +kernel
theorem d16_5 : decode Bc16 5 = .ok (.sipush 255, 3) := by decide +kernel
theorem d16_8 : decode Bc16 8 = .ok (.if_icmp .gt 7, 3) := by decide +kernel
theorem d16_11 : decode Bc16 11 = .ok (.iconst 1, 1) := by decide +kernel
theorem d16_12 : decode Bc16 12 = .ok (.goto 4, 3) := by decide +kernel
theorem d16_16 : decode Bc16 16 = .ok (.ireturn, 1) := by decide +kernel
theorem pn_16 : plainName "java/lang/StringLatin1" = true := by first | (simp [plainName, overriddenIn]; done) | decide +kernel
abbrev Bc32 := jdk_65_method_131_code
theorem d32_0 : decode Bc32 0 = .ok (.iload_n 1, 1) := by decide +kernel
theorem d32_1 : decode Bc32 1 = .ok (.iload_n 0, 1) := by decide +kernel
theorem d32_2 : decode Bc32 2 = .ok (.if_icmp .ge 35, 3) := by decide +kernel
theorem d32_37 : decode Bc32 37 = .ok (.return_, 1) := by decide +kernel
theorem pn_32 : plainName "java/util/Arrays" = true := by first | (simp [plainName, overriddenIn]; done) | decide +kernel
abbrev Bc38 := jdk_41_method_11_code
theorem d38_0 : decode Bc38 0 = .ok (.iload_n 0, 1) := by decide +kernel
theorem d38_1 : decode Bc38 1 = .ok (.ifCond .lt 8, 3) := by decide +kernel
theorem d38_4 : decode Bc38 4 = .ok (.iload_n 0, 1) := by decide +kernel
theorem d38_5 : decode Bc38 5 = .ok (.iload_n 1, 1) := by decide +kernel
theorem d38_6 : decode Bc38 6 = .ok (.if_icmp .lt 10, 3) := by decide +kernel
theorem d38_16 : decode Bc38 16 = .ok (.iload_n 0, 1) := by decide +kernel
theorem d38_17 : decode Bc38 17 = .ok (.ireturn, 1) := by decide +kernel
theorem pn_38 : plainName "jdk/internal/util/Preconditions" = true := by first | (simp [plainName, overriddenIn]; done) | decide +kernel
abbrev Bc28 := jdk_41_method_12_code
theorem d28_0 : decode Bc28 0 = .ok (.iload_n 0, 1) := by decide +kernel
theorem d28_1 : decode Bc28 1 = .ok (.ifCond .lt 13, 3) := by decide +kernel
theorem d28_4 : decode Bc28 4 = .ok (.iload_n 0, 1) := by decide +kernel
theorem d28_5 : decode Bc28 5 = .ok (.iload_n 1, 1) := by decide +kernel
theorem d28_6 : decode Bc28 6 = .ok (.if_icmp .gt 8, 3) := by decide +kernel
theorem d28_9 : decode Bc28 9 = .ok (.iload_n 1, 1) := by decide +kernel
theorem d28_10 : decode Bc28 10 = .ok (.iload_n 2, 1) := by decide +kernel
theorem d28_11 : decode Bc28 11 = .ok (.if_icmp .le 11, 3) := by decide +kernel
theorem d28_22 : decode Bc28 22 = .ok (.iload_n 0, 1) := by decide +kernel
theorem d28_23 : decode Bc28 23 = .ok (.ireturn, 1) := by decide +kernel
theorem pn_28 : plainName "jdk/internal/util/Preconditions" = true := by first | (simp [plainName, overriddenIn]; done) | decide +kernel
abbrev Bc37 := jdk_42_method_155_code
theorem d37_0 : decode Bc37 0 = .ok (.iload_n 0, 1) := by decide +kernel
theorem d37_1 : decode Bc37 1 = .ok (.iload_n 1, 1) := by decide +kernel
theorem d37_2 : decode Bc37 2 = .ok (.getstatic 1053, 3) := by decide +kernel
theorem d37_5 : decode Bc37 5 = .ok (.invokestatic 1059, 3) := by decide +kernel
theorem pd__IILjava_util_function_BiFunction__I : parseMethodDescriptor "(IILjava/util/function/BiFunction;)I" = some ⟨[.int, .int, (.object "java/util/function/BiFunction")], some .int⟩ := by decide +kernel
theorem d37_8 : decode Bc37 8 = .ok (.pop, 1) := by decide +kernel
theorem d37_9 : decode Bc37 9 = .ok (.return_, 1) := by decide +kernel
theorem pn_37 : plainName "java/lang/String" = true := by first | (simp [plainName, overriddenIn]; done) | decide +kernel
abbrev Bc27 := jdk_42_method_158_code
theorem d27_0 : decode Bc27 0 = .ok (.iload_n 0, 1) := by decide +kernel
theorem d27_1 : decode Bc27 1 = .ok (.iload_n 1, 1) := by decide +kernel
theorem d27_2 : decode Bc27 2 = .ok (.iload_n 2, 1) := by decide +kernel
theorem d27_3 : decode Bc27 3 = .ok (.getstatic 1053, 3) := by decide +kernel
theorem d27_6 : decode Bc27 6 = .ok (.invokestatic 1062, 3) := by decide +kernel
theorem pd__IIILjava_util_function_BiFunction__I : parseMethodDescriptor "(IIILjava/util/function/BiFunction;)I" = some ⟨[.int, .int, .int, (.object "java/util/function/BiFunction")], some .int⟩ := by decide +kernel
theorem d27_9 : decode Bc27 9 = .ok (.pop, 1) := by decide +kernel
theorem d27_10 : decode Bc27 10 = .ok (.return_, 1) := by decide +kernel
theorem pn_27 : plainName "java/lang/String" = true := by first | (simp [plainName, overriddenIn]; done) | decide +kernel
abbrev Bc25 := jdk_43_method_23_code
theorem d25_0 : decode Bc25 0 = .ok (.iload_n 1, 1) := by decide +kernel
theorem d25_1 : decode Bc25 1 = .ok (.i2b, 1) := by decide +kernel
theorem d25_2 : decode Bc25 2 = .ok (.istore 4, 2) := by decide +kernel
theorem d25_4 : decode Bc25 4 = .ok (.iload_n 2, 1) := by decide +kernel
theorem d25_5 : decode Bc25 5 = .ok (.istore 5, 2) := by decide +kernel
theorem d25_7 : decode Bc25 7 = .ok (.iload 5, 2) := by decide +kernel
theorem d25_9 : decode Bc25 9 = .ok (.iload_n 3, 1) := by decide +kernel
theorem d25_10 : decode Bc25 10 = .ok (.if_icmp .ge 21, 3) := by decide +kernel
theorem d25_13 : decode Bc25 13 = .ok (.aload_n 0, 1) := by decide +kernel
theorem d25_14 : decode Bc25 14 = .ok (.iload 5, 2) := by decide +kernel
theorem d25_16 : decode Bc25 16 = .ok (.baload, 1) := by decide +kernel
theorem d25_17 : decode Bc25 17 = .ok (.iload 4, 2) := by decide +kernel
theorem d25_19 : decode Bc25 19 = .ok (.if_icmp .ne 6, 3) := by decide +kernel
theorem d25_22 : decode Bc25 22 = .ok (.iload 5, 2) := by decide +kernel
theorem d25_24 : decode Bc25 24 = .ok (.ireturn, 1) := by decide +kernel
theorem d25_25 : decode Bc25 25 = .ok (.iinc 5 1, 3) := by decide +kernel
theorem d25_28 : decode Bc25 28 = .ok (.goto (-21), 3) := by decide +kernel
theorem d25_31 : decode Bc25 31 = .ok (.iconst (-1), 1) := by decide +kernel
theorem d25_32 : decode Bc25 32 = .ok (.ireturn, 1) := by decide +kernel
theorem pn_25 : plainName "java/lang/StringLatin1" = true := by first | (simp [plainName, overriddenIn]; done) | decide +kernel
abbrev Bc15 := jdk_43_method_22_code
theorem d15_0 : decode Bc15 0 = .ok (.iload_n 1, 1) := by decide +kernel
theorem d15_1 : decode Bc15 1 = .ok (.invokestatic 88, 3) := by decide +kernel
theorem pd__I_Z : parseMethodDescriptor "(I)Z" = some ⟨[.int], some .boolean⟩ := by decide +kernel
theorem d15_4 : decode Bc15 4 = .ok (.ifCond .ne 5, 3) := by decide +kernel
theorem d15_9 : decode Bc15 9 = .ok (.iload_n 2, 1) := by decide +kernel
theorem d15_10 : decode Bc15 10 = .ok (.iconst 0, 1) := by decide +kernel
theorem d15_11 : decode Bc15 11 = .ok (.invokestatic 92, 3) := by decide +kernel
theorem pd__II_I : parseMethodDescriptor "(II)I" = some ⟨[.int, .int], some .int⟩ := by decide +kernel
theorem d15_14 : decode Bc15 14 = .ok (.istore_n 2, 1) := by decide +kernel
theorem d15_15 : decode Bc15 15 = .ok (.iload_n 3, 1) := by decide +kernel
theorem d15_16 : decode Bc15 16 = .ok (.aload_n 0, 1) := by decide +kernel
theorem d15_17 : decode Bc15 17 = .ok (.arraylength, 1) := by decide +kernel
theorem d15_18 : decode Bc15 18 = .ok (.invokestatic 38, 3) := by decide +kernel
theorem d15_21 : decode Bc15 21 = .ok (.istore_n 3, 1) := by decide +kernel
theorem d15_22 : decode Bc15 22 = .ok (.iload_n 2, 1) := by decide +kernel
theorem d15_23 : decode Bc15 23 = .ok (.iload_n 3, 1) := by decide +kernel
theorem d15_24 : decode Bc15 24 = .ok (.if_icmp .lt 5, 3) := by decide +kernel
theorem d15_29 : decode Bc15 29 = .ok (.aload_n 0, 1) := by decide +kernel
theorem d15_30 : decode Bc15 30 = .ok (.iload_n 1, 1) := by decide +kernel
theorem d15_31 : decode Bc15 31 = .ok (.iload_n 2, 1) := by decide +kernel
theorem d15_32 : decode Bc15 32 = .ok (.iload_n 3, 1) := by decide +kernel
theorem d15_33 : decode Bc15 33 = .ok (.invokestatic 95, 3) := by decide +kernel
theorem pd___BIII_I : parseMethodDescriptor "([BIII)I" = some ⟨[(.array .byte), .int, .int, .int], some .int⟩ := by decide +kernel
theorem d15_36 : decode Bc15 36 = .ok (.ireturn, 1) := by decide +kernel
theorem d15_27 : decode Bc15 27 = .ok (.iconst (-1), 1) := by decide +kernel
theorem d15_28 : decode Bc15 28 = .ok (.ireturn, 1) := by decide +kernel
theorem pn_15 : plainName "java/lang/StringLatin1" = true := by first | (simp [plainName, overriddenIn]; done) | decide +kernel
abbrev Bc12 := jdk_42_method_80_code
theorem d12_0 : decode Bc12 0 = .ok (.aload_n 0, 1) := by decide +kernel
theorem d12_1 : decode Bc12 1 = .ok (.invokevirtual 492, 3) := by decide +kernel
theorem pd___Z : parseMethodDescriptor "()Z" = some ⟨[], some .boolean⟩ := by decide +kernel
theorem d12_4 : decode Bc12 4 = .ok (.ifCond .eq 19, 3) := by decide +kernel
theorem d12_7 : decode Bc12 7 = .ok (.aload_n 0, 1) := by decide +kernel
theorem d12_8 : decode Bc12 8 = .ok (.getfield 9, 3) := by decide +kernel
theorem d12_11 : decode Bc12 11 = .ok (.iload_n 1, 1) := by decide +kernel
theorem d12_12 : decode Bc12 12 = .ok (.iload_n 2, 1) := by decide +kernel
theorem d12_13 : decode Bc12 13 = .ok (.aload_n 0, 1) := by decide +kernel
theorem d12_14 : decode Bc12 14 = .ok (.invokevirtual 505, 3) := by decide +kernel
theorem pd___I : parseMethodDescriptor "()I" = some ⟨[], some .int⟩ := by decide +kernel
theorem d12_17 : decode Bc12 17 = .ok (.invokestatic 637, 3) := by decide +kernel
theorem d12_20 : decode Bc12 20 = .ok (.goto 16, 3) := by decide +kernel
theorem d12_36 : decode Bc12 36 = .ok (.ireturn, 1) := by decide +kernel
theorem pn_12 : plainName "java/lang/String" = true := by first | (simp [plainName, overriddenIn]; done) | decide +kernel
abbrev Bc11 := jdk_42_method_79_code
theorem d11_0 : decode Bc11 0 = .ok (.aload_n 0, 1) := by decide +kernel
theorem d11_1 : decode Bc11 1 = .ok (.iload_n 1, 1) := by decide +kernel
theorem d11_2 : decode Bc11 2 = .ok (.iconst 0, 1) := by decide +kernel
theorem d11_3 : decode Bc11 3 = .ok (.invokevirtual 633, 3) := by decide +kernel
theorem d11_6 : decode Bc11 6 = .ok (.ireturn, 1) := by decide +kernel
theorem pn_11 : plainName "java/lang/String" = true := by first | (simp [plainName, overriddenIn]; done) | decide +kernel
abbrev Bc36 := jdk_43_method_2_code
theorem d36_0 : decode Bc36 0 = .ok (.iload_n 1, 1) := by decide +kernel
theorem d36_1 : decode Bc36 1 = .ok (.aload_n 0, 1) := by decide +kernel
theorem d36_2 : decode Bc36 2 = .ok (.arraylength, 1) := by decide +kernel
theorem d36_3 : decode Bc36 3 = .ok (.invokestatic 9, 3) := by decide +kernel
theorem pd__II_V : parseMethodDescriptor "(II)V" = some ⟨[.int, .int], none⟩ := by decide +kernel
theorem d36_6 : decode Bc36 6 = .ok (.aload_n 0, 1) := by decide +kernel
theorem d36_7 : decode Bc36 7 = .ok (.iload_n 1, 1) := by decide +kernel
theorem d36_8 : decode Bc36 8 = .ok (.baload, 1) := by decide +kernel
theorem d36_9 : decode Bc36 9 = .ok (.sipush 255, 3) := by decide +kernel
theorem d36_12 : decode Bc36 12 = .ok (.iand, 1) := by decide +kernel
theorem d36_13 : decode Bc36 13 = .ok (.i2c, 1) := by decide +kernel
theorem d36_14 : decode Bc36 14 = .ok (.ireturn, 1) := by decide +kernel
theorem pn_36 : plainName "java/lang/StringLatin1" = true := by first | (simp [plainName, overriddenIn]; done) | decide +kernel
abbrev Bc35 := jdk_42_method_56_code
theorem d35_0 : decode Bc35 0 = .ok (.aload_n 0, 1) := by decide +kernel
theorem d35_1 : decode Bc35 1 = .ok (.invokevirtual 492, 3) := by decide +kernel
theorem d35_4 : decode Bc35 4 = .ok (.ifCond .eq 12, 3) := by decide +kernel
theorem d35_7 : decode Bc35 7 = .ok (.aload_n 0, 1) := by decide +kernel
theorem d35_8 : decode Bc35 8 = .ok (.getfield 9, 3) := by decide +kernel
theorem d35_11 : decode Bc35 11 = .ok (.iload_n 1, 1) := by decide +kernel
theorem d35_12 : decode Bc35 12 = .ok (.invokestatic 495, 3) := by decide +kernel
theorem pd___BI_C : parseMethodDescriptor "([BI)C" = some ⟨[(.array .byte), .int], some .char⟩ := by decide +kernel
theorem d35_15 : decode Bc35 15 = .ok (.ireturn, 1) := by decide +kernel
theorem pn_35 : plainName "java/lang/String" = true := by first | (simp [plainName, overriddenIn]; done) | decide +kernel
abbrev Bc39 := prog_31_method_2_code
theorem d39_0 : decode Bc39 0 = .ok (.iload_n 0, 1) := by decide +kernel
theorem d39_1 : decode Bc39 1 = .ok (.ifCond .lt 24, 3) := by decide +kernel
theorem d39_25 : decode Bc39 25 = .ok (.iconst 0, 1) := by decide +kernel
theorem d39_26 : decode Bc39 26 = .ok (.ireturn, 1) := by decide +kernel
theorem d39_4 : decode Bc39 4 = .ok (.iload_n 0, 1) := by decide +kernel
theorem d39_5 : decode Bc39 5 = .ok (.sipush 128, 3) := by decide +kernel
theorem d39_8 : decode Bc39 8 = .ok (.if_icmp .ge 17, 3) := by decide +kernel
theorem d39_11 : decode Bc39 11 = .ok (.getstatic 87, 3) := by decide +kernel
theorem d39_14 : decode Bc39 14 = .ok (.iload_n 0, 1) := by decide +kernel
theorem d39_15 : decode Bc39 15 = .ok (.baload, 1) := by decide +kernel
theorem d39_16 : decode Bc39 16 = .ok (.iconst 1, 1) := by decide +kernel
theorem d39_17 : decode Bc39 17 = .ok (.iand, 1) := by decide +kernel
theorem d39_18 : decode Bc39 18 = .ok (.ifCond .eq 7, 3) := by decide +kernel
theorem d39_21 : decode Bc39 21 = .ok (.iconst 1, 1) := by decide +kernel
theorem d39_22 : decode Bc39 22 = .ok (.goto 4, 3) := by decide +kernel
theorem pn_39 : plainName "com/example/bundlewright/bundlewright/core/Name" = true := by first | (simp [plainName, overriddenIn]; done) | decide +kernel
abbrev Bc20 := jdk_43_method_13_code
theorem d20_0 : decode Bc20 0 = .ok (.aload_n 0, 1) := by decide +kernel
theorem d20_1 : decode Bc20 1 = .ok (.arraylength, 1) := by decide +kernel
theorem d20_2 : decode Bc20 2 = .ok (.aload_n 1, 1) := by decide +kernel
theorem d20_3 : decode Bc20 3 = .ok (.arraylength, 1) := by decide +kernel
theorem d20_4 : decode Bc20 4 = .ok (.if_icmp .ne 30, 3) := by decide +kernel
theorem d20_34 : decode Bc20 34 = .ok (.iconst 0, 1) := by decide +kernel
theorem d20_35 : decode Bc20 35 = .ok (.ireturn, 1) := by decide +kernel
theorem pn_20 : plainName "java/lang/StringLatin1" = true := by first | (simp [plainName, overriddenIn]; done) | decide +kernel
abbrev Bc19 := jdk_42_method_66_code
theorem d19_0 : decode Bc19 0 = .ok (.aload_n 0, 1) := by decide +kernel
theorem d19_1 : decode Bc19 1 = .ok (.aload_n 1, 1) := by decide +kernel
theorem d19_2 : decode Bc19 2 = .ok (.if_acmp .ne 5, 3) := by decide +kernel
theorem d19_7 : decode Bc19 7 = .ok (.aload_n 1, 1) := by decide +kernel
theorem d19_8 : decode Bc19 8 = .ok (.instanceof 10, 3) := by decide +kernel
theorem d19_11 : decode Bc19 11 = .ok (.ifCond .eq 43, 3) := by decide +kernel
theorem d19_14 : decode Bc19 14 = .ok (.aload_n 1, 1) := by decide +kernel
theorem d19_15 : decode Bc19 15 = .ok (.checkcast 10, 3) := by decide +kernel
theorem d19_18 : decode Bc19 18 = .ok (.astore_n 2, 1) := by decide +kernel
theorem d19_19 : decode Bc19 19 = .ok (.getstatic 38, 3) := by decide +kernel
theorem d19_22 : decode Bc19 22 = .ok (.ifCond .eq 14, 3) := by decide +kernel
theorem d19_25 : decode Bc19 25 = .ok (.aload_n 0, 1) := by decide +kernel
theorem d19_26 : decode Bc19 26 = .ok (.getfield 15, 3) := by decide +kernel
theorem d19_29 : decode Bc19 29 = .ok (.aload_n 2, 1) := by decide +kernel
theorem d19_30 : decode Bc19 30 = .ok (.getfield 15, 3) := by decide +kernel
theorem d19_33 : decode Bc19 33 = .ok (.if_icmp .ne 21, 3) := by decide +kernel
theorem d19_36 : decode Bc19 36 = .ok (.aload_n 0, 1) := by decide +kernel
theorem d19_37 : decode Bc19 37 = .ok (.getfield 9, 3) := by decide +kernel
theorem d19_40 : decode Bc19 40 = .ok (.aload_n 2, 1) := by decide +kernel
theorem d19_41 : decode Bc19 41 = .ok (.getfield 9, 3) := by decide +kernel
theorem d19_44 : decode Bc19 44 = .ok (.invokestatic 541, 3) := by decide +kernel
theorem pd___B_B_Z : parseMethodDescriptor "([B[B)Z" = some ⟨[(.array .byte), (.array .byte)], some .boolean⟩ := by decide +kernel
theorem d19_47 : decode Bc19 47 = .ok (.ifCond .eq 7, 3) := by decide +kernel
theorem d19_54 : decode Bc19 54 = .ok (.iconst 0, 1) := by decide +kernel
theorem d19_55 : decode Bc19 55 = .ok (.ireturn, 1) := by decide +kernel
theorem pn_19 : plainName "java/lang/String" = true := by first | (simp [plainName, overriddenIn]; done) | decide +kernel
theorem d20_7 : decode Bc20 7 = .ok (.iconst 0, 1) := by decide +kernel
theorem d20_8 : decode Bc20 8 = .ok (.istore_n 2, 1) := by decide +kernel
theorem d20_9 : decode Bc20 9 = .ok (.iload_n 2, 1) := by decide +kernel
theorem d20_10 : decode Bc20 10 = .ok (.aload_n 0, 1) := by decide +kernel
theorem d20_11 : decode Bc20 11 = .ok (.arraylength, 1) := by decide +kernel
theorem d20_12 : decode Bc20 12 = .ok (.if_icmp .ge 20, 3) := by decide +kernel
theorem d20_15 : decode Bc20 15 = .ok (.aload_n 0, 1) := by decide +kernel
theorem d20_16 : decode Bc20 16 = .ok (.iload_n 2, 1) := by decide +kernel
theorem d20_17 : decode Bc20 17 = .ok (.baload, 1) := by decide +kernel
theorem d20_18 : decode Bc20 18 = .ok (.aload_n 1, 1) := by decide +kernel
theorem d20_19 : decode Bc20 19 = .ok (.iload_n 2, 1) := by decide +kernel
theorem d20_20 : decode Bc20 20 = .ok (.baload, 1) := by decide +kernel
theorem d20_21 : decode Bc20 21 = .ok (.if_icmp .eq 5, 3) := by decide +kernel
theorem d20_26 : decode Bc20 26 = .ok (.iinc 2 1, 3) := by decide +kernel
theorem d20_29 : decode Bc20 29 = .ok (.goto (-20), 3) := by decide +kernel
theorem d20_32 : decode Bc20 32 = .ok (.iconst 1, 1) := by decide +kernel
theorem d20_33 : decode Bc20 33 = .ok (.ireturn, 1) := by decide +kernel
theorem d20_24 : decode Bc20 24 = .ok (.iconst 0, 1) := by decide +kernel
theorem d20_25 : decode Bc20 25 = .ok (.ireturn, 1) := by decide +kernel
theorem d19_5 : decode Bc19 5 = .ok (.iconst 1, 1) := by decide +kernel
theorem d19_6 : decode Bc19 6 = .ok (.ireturn, 1) := by decide +kernel
theorem d19_50 : decode Bc19 50 = .ok (.iconst 1, 1) := by decide +kernel
theorem d19_51 : decode Bc19 51 = .ok (.goto 4, 3) := by decide +kernel
abbrev Bc10 := jdk_123_method_3_code
theorem d10_0 : decode Bc10 0 = .ok (.iload_n 1, 1) := by decide +kernel
theorem d10_1 : decode Bc10 1 = .ok (.iload_n 2, 1) := by decide +kernel
theorem d10_2 : decode Bc10 2 = .ok (.iadd, 1) := by decide +kernel
theorem d10_3 : decode Bc10 3 = .ok (.istore_n 3, 1) := by decide +kernel
theorem d10_4 : decode Bc10 4 = .ok (.iload_n 1, 1) := by decide +kernel
theorem d10_5 : decode Bc10 5 = .ok (.istore 4, 2) := by decide +kernel
theorem d10_7 : decode Bc10 7 = .ok (.iload 4, 2) := by decide +kernel
theorem d10_9 : decode Bc10 9 = .ok (.iload_n 3, 1) := by decide +kernel
theorem d10_10 : decode Bc10 10 = .ok (.if_icmp .ge 21, 3) := by decide +kernel
theorem d10_13 : decode Bc10 13 = .ok (.aload_n 0, 1) := by decide +kernel
theorem d10_14 : decode Bc10 14 = .ok (.iload 4, 2) := by decide +kernel
theorem d10_16 : decode Bc10 16 = .ok (.baload, 1) := by decide +kernel
theorem d10_17 : decode Bc10 17 = .ok (.ifCond .ge 8, 3) := by decide +kernel
theorem d10_25 : decode Bc10 25 = .ok (.iinc 4 1, 3) := by decide +kernel
theorem d10_28 : decode Bc10 28 = .ok (.goto (-21), 3) := by decide +kernel
theorem d10_31 : decode Bc10 31 = .ok (.iload_n 2, 1) := by decide +kernel
theorem d10_32 : decode Bc10 32 = .ok (.ireturn, 1) := by decide +kernel
theorem pn_10 : plainName "java/lang/StringCoding" = true := by first | (simp [plainName, overriddenIn]; done) | decide +kernel
abbrev Bc9 := jdk_42_method_24_code
theorem d9_0 : decode Bc9 0 = .ok (.iload_n 0, 1) := by decide +kernel
theorem d9_1 : decode Bc9 1 = .ok (.ifCond .ne 32, 3) := by decide +kernel
theorem d9_4 : decode Bc9 4 = .ok (.aload_n 1, 1) := by decide +kernel
theorem d9_5 : decode Bc9 5 = .ok (.iconst 0, 1) := by decide +kernel
theorem d9_6 : decode Bc9 6 = .ok (.aload_n 1, 1) := by decide +kernel
theorem d9_7 : decode Bc9 7 = .ok (.arraylength, 1) := by decide +kernel
theorem d9_8 : decode Bc9 8 = .ok (.invokestatic 92, 3) := by decide +kernel
theorem pd___BII_I : parseMethodDescriptor "([BII)I" = some ⟨[(.array .byte), .int, .int], some .int⟩ := by decide +kernel
theorem d9_11 : decode Bc9 11 = .ok (.istore_n 2, 1) := by decide +kernel
theorem d9_12 : decode Bc9 12 = .ok (.aload_n 1, 1) := by decide +kernel
theorem d9_13 : decode Bc9 13 = .ok (.invokevirtual 279, 3) := by decide +kernel
theorem d9_16 : decode Bc9 16 = .ok (.checkcast 280, 3) := by decide +kernel
theorem d9_19 : decode Bc9 19 = .ok (.astore_n 3, 1) := by decide +kernel
theorem d9_20 : decode Bc9 20 = .ok (.iload_n 2, 1) := by decide +kernel
theorem d9_21 : decode Bc9 21 = .ok (.aload_n 3, 1) := by decide +kernel
theorem d9_22 : decode Bc9 22 = .ok (.arraylength, 1) := by decide +kernel
theorem d9_23 : decode Bc9 23 = .ok (.if_icmp .ge 8, 3) := by decide +kernel
theorem d9_31 : decode Bc9 31 = .ok (.aload_n 3, 1) := by decide +kernel
theorem d9_32 : decode Bc9 32 = .ok (.areturn, 1) := by decide +kernel
theorem pn_9 : plainName "java/lang/String" = true := by first | (simp [plainName, overriddenIn]; done) | decide +kernel
abbrev Bc8 := jdk_42_method_18_code
theorem d8_0 : decode Bc8 0 = .ok (.aload_n 0, 1) := by decide +kernel
theorem d8_1 : decode Bc8 1 = .ok (.getstatic 86, 3) := by decide +kernel
theorem d8_4 : decode Bc8 4 = .ok (.if_acmp .ne 10, 3) := by decide +kernel
theorem d8_14 : decode Bc8 14 = .ok (.aload_n 0, 1) := by decide +kernel
theorem d8_15 : decode Bc8 15 = .ok (.getstatic 116, 3) := by decide +kernel
theorem d8_18 : decode Bc8 18 = .ok (.if_acmp .ne 9, 3) := by decide +kernel
theorem d8_27 : decode Bc8 27 = .ok (.aload_n 0, 1) := by decide +kernel
theorem d8_28 : decode Bc8 28 = .ok (.getstatic 123, 3) := by decide +kernel
theorem d8_31 : decode Bc8 31 = .ok (.if_acmp .ne 9, 3) := by decide +kernel
theorem d8_34 : decode Bc8 34 = .ok (.iload_n 1, 1) := by decide +kernel
theorem d8_35 : decode Bc8 35 = .ok (.aload_n 2, 1) := by decide +kernel
theorem d8_36 : decode Bc8 36 = .ok (.invokestatic 260, 3) := by decide +kernel
theorem pd__B_B__B : parseMethodDescriptor "(B[B)[B" = some ⟨[.byte, (.array .byte)], some (.array .byte)⟩ := by decide +kernel
theorem d8_39 : decode Bc8 39 = .ok (.areturn, 1) := by decide +kernel
theorem pn_8 : plainName "java/lang/String" = true := by first | (simp [plainName, overriddenIn]; done) | decide +kernel
abbrev Bc6 := jdk_42_method_64_code
theorem d6_0 : decode Bc6 0 = .ok (.aload_n 1, 1) := by decide +kernel
theorem d6_1 : decode Bc6 1 = .ok (.ifnonnull 11, 3) := by decide +kernel
theorem d6_12 : decode Bc6 12 = .ok (.aload_n 1, 1) := by decide +kernel
theorem d6_13 : decode Bc6 13 = .ok (.aload_n 0, 1) := by decide +kernel
theorem d6_14 : decode Bc6 14 = .ok (.invokevirtual 335, 3) := by decide +kernel
theorem d6_17 : decode Bc6 17 = .ok (.aload_n 0, 1) := by decide +kernel
theorem d6_18 : decode Bc6 18 = .ok (.getfield 9, 3) := by decide +kernel
theorem d6_21 : decode Bc6 21 = .ok (.invokestatic 535, 3) := by decide +kernel
theorem pd__Ljava_nio_charset_Charset_B_B__B : parseMethodDescriptor "(Ljava/nio/charset/Charset;B[B)[B" = some ⟨[(.object "java/nio/charset/Charset"), .byte, (.array .byte)], some (.array .byte)⟩ := by decide +kernel
theorem d6_24 : decode Bc6 24 = .ok (.areturn, 1) := by decide +kernel
theorem pn_6 : plainName "java/lang/String" = true := by first | (simp [plainName, overriddenIn]; done) | decide +kernel
abbrev Bc33 := jdk_42_method_151_code
theorem d33_0 : decode Bc33 0 = .ok (.aload_n 0, 1) := by decide +kernel
theorem d33_1 : decode Bc33 1 = .ok (.invokespecial 1, 3) := by decide +kernel
theorem d33_4 : decode Bc33 4 = .ok (.aload_n 0, 1) := by decide +kernel
theorem d33_5 : decode Bc33 5 = .ok (.aload_n 1, 1) := by decide +kernel
theorem d33_6 : decode Bc33 6 = .ok (.putfield 9, 3) := by decide +kernel
theorem d33_9 : decode Bc33 9 = .ok (.aload_n 0, 1) := by decide +kernel
theorem d33_10 : decode Bc33 10 = .ok (.iload_n 2, 1) := by decide +kernel
theorem d33_11 : decode Bc33 11 = .ok (.putfield 15, 3) := by decide +kernel
theorem d33_14 : decode Bc33 14 = .ok (.return_, 1) := by decide +kernel
theorem pn_33 : plainName "java/lang/String" = true := by first | (simp [plainName, overriddenIn]; done) | decide +kernel
abbrev Bc31 := jdk_65_method_133_code
theorem d31_0 : decode Bc31 0 = .ok (.iload_n 1, 1) := by decide +kernel
theorem d31_1 : decode Bc31 1 = .ok (.iload_n 2, 1) := by decide +kernel
theorem d31_2 : decode Bc31 2 = .ok (.invokestatic 343, 3) := by decide +kernel
theorem d31_5 : decode Bc31 5 = .ok (.iload_n 2, 1) := by decide +kernel
theorem d31_6 : decode Bc31 6 = .ok (.iload_n 1, 1) := by decide +kernel
theorem d31_7 : decode Bc31 7 = .ok (.isub, 1) := by decide +kernel
theorem d31_8 : decode Bc31 8 = .ok (.istore_n 3, 1) := by decide +kernel
theorem d31_9 : decode Bc31 9 = .ok (.iload_n 3, 1) := by decide +kernel
theorem d31_10 : decode Bc31 10 = .ok (.newarray .byte, 2) := by decide +kernel
theorem d31_12 : decode Bc31 12 = .ok (.astore 4, 2) := by decide +kernel
theorem d31_14 : decode Bc31 14 = .ok (.aload_n 0, 1) := by decide +kernel
theorem d31_15 : decode Bc31 15 = .ok (.iload_n 1, 1) := by decide +kernel
theorem d31_16 : decode Bc31 16 = .ok (.aload 4, 2) := by decide +kernel
theorem d31_18 : decode Bc31 18 = .ok (.iconst 0, 1) := by decide +kernel
theorem d31_19 : decode Bc31 19 = .ok (.aload_n 0, 1) := by decide +kernel
theorem d31_20 : decode Bc31 20 = .ok (.arraylength, 1) := by decide +kernel
theorem d31_21 : decode Bc31 21 = .ok (.iload_n 1, 1) := by decide +kernel
theorem d31_22 : decode Bc31 22 = .ok (.isub, 1) := by decide +kernel
theorem d31_23 : decode Bc31 23 = .ok (.iload_n 3, 1) := by decide +kernel
theorem d31_24 : decode Bc31 24 = .ok (.invokestatic 304, 3) := by decide +kernel
theorem d31_27 : decode Bc31 27 = .ok (.invokestatic 150, 3) := by decide +kernel
theorem d31_30 : decode Bc31 30 = .ok (.aload 4, 2) := by decide +kernel
theorem d31_32 : decode Bc31 32 = .ok (.areturn, 1) := by decide +kernel
theorem pn_31 : plainName "java/util/Arrays" = true := by first | (simp [plainName, overriddenIn]; done) | decide +kernel
abbrev Bc30 := jdk_65_method_132_code
theorem d30_0 : decode Bc30 0 = .ok (.iload_n 1, 1) := by decide +kernel
theorem d30_1 : decode Bc30 1 = .ok (.ifCond .ne 9, 3) := by decide +kernel
theorem d30_4 : decode Bc30 4 = .ok (.iload_n 2, 1) := by decide +kernel
theorem d30_5 : decode Bc30 5 = .ok (.aload_n 0, 1) := by decide +kernel
theorem d30_6 : decode Bc30 6 = .ok (.arraylength, 1) := by decide +kernel
theorem d30_7 : decode Bc30 7 = .ok (.if_icmp .eq 10, 3) := by decide +kernel
theorem d30_10 : decode Bc30 10 = .ok (.aload_n 0, 1) := by decide +kernel
theorem d30_11 : decode Bc30 11 = .ok (.iload_n 1, 1) := by decide +kernel
theorem d30_12 : decode Bc30 12 = .ok (.iload_n 2, 1) := by decide +kernel
theorem d30_13 : decode Bc30 13 = .ok (.invokestatic 339, 3) := by decide +kernel
theorem pd___BII__B : parseMethodDescriptor "([BII)[B" = some ⟨[(.array .byte), .int, .int], some (.array .byte)⟩ := by decide +kernel
theorem d30_16 : decode Bc30 16 = .ok (.areturn, 1) := by decide +kernel
theorem pn_30 : plainName "java/util/Arrays" = true := by first | (simp [plainName, overriddenIn]; done) | decide +kernel
abbrev Bc29 := jdk_43_method_47_code
theorem d29_0 : decode Bc29 0 = .ok (.iload_n 2, 1) := by decide +kernel
theorem d29_1 : decode Bc29 1 = .ok (.ifCond .ne 6, 3) := by decide +kernel
theorem d29_7 : decode Bc29 7 = .ok (.new 1, 3) := by decide +kernel
theorem d29_10 : decode Bc29 10 = .ok (.dup, 1) := by decide +kernel
theorem d29_11 : decode Bc29 11 = .ok (.aload_n 0, 1) := by decide +kernel
theorem d29_12 : decode Bc29 12 = .ok (.iload_n 1, 1) := by decide +kernel
theorem d29_13 : decode Bc29 13 = .ok (.iload_n 1, 1) := by decide +kernel
theorem d29_14 : decode Bc29 14 = .ok (.iload_n 2, 1) := by decide +kernel
theorem d29_15 : decode Bc29 15 = .ok (.iadd, 1) := by decide +kernel
theorem d29_16 : decode Bc29 16 = .ok (.invokestatic 232, 3) := by decide +kernel
theorem d29_19 : decode Bc29 19 = .ok (.iconst 0, 1) := by decide +kernel
theorem d29_20 : decode Bc29 20 = .ok (.invokespecial 112, 3) := by decide +kernel
theorem pd___BB_V : parseMethodDescriptor "([BB)V" = some ⟨[(.array .byte), .byte], none⟩ := by decide +kernel
theorem d29_23 : decode Bc29 23 = .ok (.areturn, 1) := by decide +kernel
theorem pn_29 : plainName "java/lang/StringLatin1" = true := by first | (simp [plainName, overriddenIn]; done) | decide +kernel
theorem d29_4 : decode Bc29 4 = .ok (.ldc 151, 2) := by decide +kernel
theorem d29_6 : decode Bc29 6 = .ok (.areturn, 1) := by decide +kernel
abbrev Bc26 := jdk_42_method_92_code
theorem d26_0 : decode Bc26 0 = .ok (.aload_n 0, 1) := by decide +kernel
theorem d26_1 : decode Bc26 1 = .ok (.invokevirtual 505, 3) := by decide +kernel
theorem d26_4 : decode Bc26 4 = .ok (.istore_n 3, 1) := by decide +kernel
theorem d26_5 : decode Bc26 5 = .ok (.iload_n 1, 1) := by decide +kernel
theorem d26_6 : decode Bc26 6 = .ok (.iload_n 2, 1) := by decide +kernel
theorem d26_7 : decode Bc26 7 = .ok (.iload_n 3, 1) := by decide +kernel
theorem d26_8 : decode Bc26 8 = .ok (.invokestatic 521, 3) := by decide +kernel
theorem pd__III_V : parseMethodDescriptor "(III)V" = some ⟨[.int, .int, .int], none⟩ := by decide +kernel
theorem d26_11 : decode Bc26 11 = .ok (.iload_n 1, 1) := by decide +kernel
theorem d26_12 : decode Bc26 12 = .ok (.ifCond .ne 10, 3) := by decide +kernel
theorem d26_15 : decode Bc26 15 = .ok (.iload_n 2, 1) := by decide +kernel
theorem d26_16 : decode Bc26 16 = .ok (.iload_n 3, 1) := by decide +kernel
theorem d26_17 : decode Bc26 17 = .ok (.if_icmp .ne 5, 3) := by decide +kernel
theorem d26_22 : decode Bc26 22 = .ok (.iload_n 2, 1) := by decide +kernel
theorem d26_23 : decode Bc26 23 = .ok (.iload_n 1, 1) := by decide +kernel
theorem d26_24 : decode Bc26 24 = .ok (.isub, 1) := by decide +kernel
theorem d26_25 : decode Bc26 25 = .ok (.istore 4, 2) := by decide +kernel
theorem d26_27 : decode Bc26 27 = .ok (.aload_n 0, 1) := by decide +kernel
theorem d26_28 : decode Bc26 28 = .ok (.invokevirtual 492, 3) := by decide +kernel
theorem d26_31 : decode Bc26 31 = .ok (.ifCond .eq 16, 3) := by decide +kernel
theorem d26_34 : decode Bc26 34 = .ok (.aload_n 0, 1) := by decide +kernel
theorem d26_35 : decode Bc26 35 = .ok (.getfield 9, 3) := by decide +kernel
theorem d26_38 : decode Bc26 38 = .ok (.iload_n 1, 1) := by decide +kernel
theorem d26_39 : decode Bc26 39 = .ok (.iload 4, 2) := by decide +kernel
theorem d26_41 : decode Bc26 41 = .ok (.invokestatic 685, 3) := by decide +kernel
theorem pd___BII_Ljava_lang_String_ : parseMethodDescriptor "([BII)Ljava/lang/String;" = some ⟨[(.array .byte), .int, .int], some (.object "java/lang/String")⟩ := by decide +kernel
theorem d26_44 : decode Bc26 44 = .ok (.goto 13, 3) := by decide +kernel
theorem d26_57 : decode Bc26 57 = .ok (.areturn, 1) := by decide +kernel
theorem pn_26 : plainName "java/lang/String" = true := by first | (simp [plainName, overriddenIn]; done) | decide +kernel
abbrev Bc34 := jdk_42_method_91_code
theorem d34_0 : decode Bc34 0 = .ok (.aload_n 0, 1) := by decide +kernel
theorem d34_1 : decode Bc34 1 = .ok (.iload_n 1, 1) := by decide +kernel
theorem d34_2 : decode Bc34 2 = .ok (.aload_n 0, 1) := by decide +kernel
theorem d34_3 : decode Bc34 3 = .ok (.invokevirtual 505, 3) := by decide +kernel
theorem d34_6 : decode Bc34 6 = .ok (.invokevirtual 681, 3) := by decide +kernel
theorem pd__II_Ljava_lang_String_ : parseMethodDescriptor "(II)Ljava/lang/String;" = some ⟨[.int, .int], some (.object "java/lang/String")⟩ := by decide +kernel
theorem d34_9 : decode Bc34 9 = .ok (.areturn, 1) := by decide +kernel
theorem pn_34 : plainName "java/lang/String" = true := by first | (simp [plainName, overriddenIn]; done) | decide +kernel
abbrev Bc5 := prog_31_method_1_code
theorem d5_0 : decode Bc5 0 = .ok (.aload_n 0, 1) := by decide +kernel
theorem d5_1 : decode Bc5 1 = .ok (.invokespecial 1, 3) := by decide +kernel
theorem d5_4 : decode Bc5 4 = .ok (.aload_n 0, 1) := by decide +kernel
theorem d5_5 : decode Bc5 5 = .ok (.aload_n 1, 1) := by decide +kernel
theorem d5_6 : decode Bc5 6 = .ok (.putfield 7, 3) := by decide +kernel
theorem d5_9 : decode Bc5 9 = .ok (.aload_n 0, 1) := by decide +kernel
theorem d5_10 : decode Bc5 10 = .ok (.aload_n 1, 1) := by decide +kernel
theorem d5_11 : decode Bc5 11 = .ok (.getstatic 13, 3) := by decide +kernel
theorem d5_14 : decode Bc5 14 = .ok (.invokevirtual 19, 3) := by decide +kernel
theorem pd__Ljava_nio_charset_Charset___B : parseMethodDescriptor "(Ljava/nio/charset/Charset;)[B" = some ⟨[(.object "java/nio/charset/Charset")], some (.array .byte)⟩ := by decide +kernel
theorem d5_17 : decode Bc5 17 = .ok (.putfield 25, 3) := by decide +kernel
theorem d5_20 : decode Bc5 20 = .ok (.aload_n 0, 1) := by decide +kernel
theorem d5_21 : decode Bc5 21 = .ok (.iload_n 2, 1) := by decide +kernel
theorem d5_22 : decode Bc5 22 = .ok (.putfield 29, 3) := by decide +kernel
theorem d5_25 : decode Bc5 25 = .ok (.aload_n 1, 1) := by decide +kernel
theorem d5_26 : decode Bc5 26 = .ok (.bipush 58, 2) := by decide +kernel
theorem d5_28 : decode Bc5 28 = .ok (.invokevirtual 33, 3) := by decide +kernel
theorem pd__I_I : parseMethodDescriptor "(I)I" = some ⟨[.int], some .int⟩ := by decide +kernel
theorem d5_31 : decode Bc5 31 = .ok (.istore_n 3, 1) := by decide +kernel
theorem d5_32 : decode Bc5 32 = .ok (.aload_n 0, 1) := by decide +kernel
theorem d5_33 : decode Bc5 33 = .ok (.iload_n 3, 1) := by decide +kernel
theorem d5_34 : decode Bc5 34 = .ok (.ifCond .lt 42, 3) := by decide +kernel
theorem d5_76 : decode Bc5 76 = .ok (.iconst 1, 1) := by decide +kernel
theorem d5_77 : decode Bc5 77 = .ok (.goto 4, 3) := by decide +kernel
theorem d5_81 : decode Bc5 81 = .ok (.putfield 52, 3) := by decide +kernel
theorem d5_37 : decode Bc5 37 = .ok (.iload_n 3, 1) := by decide +kernel
theorem d5_38 : decode Bc5 38 = .ok (.ifCond .le 42, 3) := by decide +kernel
theorem d5_41 : decode Bc5 41 = .ok (.iload_n 3, 1) := by decide +kernel
theorem d5_42 : decode Bc5 42 = .ok (.aload_n 1, 1) := by decide +kernel
theorem d5_43 : decode Bc5 43 = .ok (.invokevirtual 37, 3) := by decide +kernel
theorem d5_46 : decode Bc5 46 = .ok (.iconst 1, 1) := by decide +kernel
theorem d5_47 : decode Bc5 47 = .ok (.isub, 1) := by decide +kernel
theorem d5_48 : decode Bc5 48 = .ok (.if_icmp .ge 32, 3) := by decide +kernel
theorem d5_51 : decode Bc5 51 = .ok (.aload_n 1, 1) := by decide +kernel
theorem d5_52 : decode Bc5 52 = .ok (.bipush 58, 2) := by decide +kernel
theorem d5_54 : decode Bc5 54 = .ok (.iload_n 3, 1) := by decide +kernel
theorem d5_55 : decode Bc5 55 = .ok (.iconst 1, 1) := by decide +kernel
theorem d5_56 : decode Bc5 56 = .ok (.iadd, 1) := by decide +kernel
theorem d5_57 : decode Bc5 57 = .ok (.invokevirtual 41, 3) := by decide +kernel
theorem d5_60 : decode Bc5 60 = .ok (.ifCond .ge 20, 3) := by decide +kernel
theorem d5_63 : decode Bc5 63 = .ok (.aload_n 1, 1) := by decide +kernel
theorem d5_64 : decode Bc5 64 = .ok (.iload_n 3, 1) := by decide +kernel
theorem d5_65 : decode Bc5 65 = .ok (.iconst 1, 1) := by decide +kernel
theorem d5_66 : decode Bc5 66 = .ok (.iadd, 1) := by decide +kernel
theorem d5_67 : decode Bc5 67 = .ok (.invokevirtual 44, 3) := by decide +kernel
theorem pd__I_C : parseMethodDescriptor "(I)C" = some ⟨[.int], some .char⟩ := by decide +kernel
theorem d5_70 : decode Bc5 70 = .ok (.invokestatic 48, 3) := by decide +kernel
theorem d5_73 : decode Bc5 73 = .ok (.ifCond .eq 7, 3) := by decide +kernel
theorem d5_80 : decode Bc5 80 = .ok (.iconst 0, 1) := by decide +kernel
theorem d5_84 : decode Bc5 84 = .ok (.aload_n 0, 1) := by decide +kernel
theorem d5_85 : decode Bc5 85 = .ok (.iload_n 3, 1) := by decide +kernel
theorem d5_86 : decode Bc5 86 = .ok (.ifCond .ge 8, 3) := by decide +kernel
theorem d5_89 : decode Bc5 89 = .ok (.ldc 56, 2) := by decide +kernel
theorem d5_91 : decode Bc5 91 = .ok (.goto 9, 3) := by decide +kernel
theorem d5_100 : decode Bc5 100 = .ok (.putfield 62, 3) := by decide +kernel
theorem d5_94 : decode Bc5 94 = .ok (.aload_n 1, 1) := by decide +kernel
theorem d5_95 : decode Bc5 95 = .ok (.iconst 0, 1) := by decide +kernel
theorem d5_96 : decode Bc5 96 = .ok (.iload_n 3, 1) := by decide +kernel
theorem d5_97 : decode Bc5 97 = .ok (.invokevirtual 58, 3) := by decide +kernel
theorem d5_103 : decode Bc5 103 = .ok (.aload_n 0, 1) := by decide +kernel
theorem d5_104 : decode Bc5 104 = .ok (.iload_n 3, 1) := by decide +kernel
theorem d5_105 : decode Bc5 105 = .ok (.ifCond .ge 7, 3) := by decide +kernel
theorem d5_108 : decode Bc5 108 = .ok (.aload_n 1, 1) := by decide +kernel
theorem d5_109 : decode Bc5 109 = .ok (.goto 10, 3) := by decide +kernel
theorem d5_119 : decode Bc5 119 = .ok (.putfield 68, 3) := by decide +kernel
theorem d5_112 : decode Bc5 112 = .ok (.aload_n 1, 1) := by decide +kernel
theorem d5_113 : decode Bc5 113 = .ok (.iload_n 3, 1) := by decide +kernel
theorem d5_114 : decode Bc5 114 = .ok (.iconst 1, 1) := by decide +kernel
theorem d5_115 : decode Bc5 115 = .ok (.iadd, 1) := by decide +kernel
theorem d5_116 : decode Bc5 116 = .ok (.invokevirtual 65, 3) := by decide +kernel
theorem pd__I_Ljava_lang_String_ : parseMethodDescriptor "(I)Ljava/lang/String;" = some ⟨[.int], some (.object "java/lang/String")⟩ := by decide +kernel
theorem d5_122 : decode Bc5 122 = .ok (.aload_n 1, 1) := by decide +kernel
theorem d5_123 : decode Bc5 123 = .ok (.ldc 73, 2) := by decide +kernel
theorem d5_125 : decode Bc5 125 = .ok (.invokevirtual 75, 3) := by decide +kernel
theorem pd__Ljava_lang_Object__Z : parseMethodDescriptor "(Ljava/lang/Object;)Z" = some ⟨[(.object "java/lang/Object")], some .boolean⟩ := by decide +kernel
theorem d5_128 : decode Bc5 128 = .ok (.ifCond .eq 12, 3) := by decide +kernel
theorem d5_140 : decode Bc5 140 = .ok (.aload_n 0, 1) := by decide +kernel
theorem d5_141 : decode Bc5 141 = .ok (.getfield 62, 3) := by decide +kernel
theorem d5_144 : decode Bc5 144 = .ok (.ldc 73, 2) := by decide +kernel
theorem d5_146 : decode Bc5 146 = .ok (.invokevirtual 75, 3) := by decide +kernel
theorem d5_149 : decode Bc5 149 = .ok (.ifCond .eq 14, 3) := by decide +kernel
theorem d5_163 : decode Bc5 163 = .ok (.aload_n 0, 1) := by decide +kernel
theorem d5_164 : decode Bc5 164 = .ok (.aconst_null, 1) := by decide +kernel
theorem d5_165 : decode Bc5 165 = .ok (.putfield 79, 3) := by decide +kernel
theorem d5_168 : decode Bc5 168 = .ok (.aload_n 0, 1) := by decide +kernel
theorem d5_169 : decode Bc5 169 = .ok (.aload_n 0, 1) := by decide +kernel
theorem d5_170 : decode Bc5 170 = .ok (.getfield 62, 3) := by decide +kernel
theorem d5_173 : decode Bc5 173 = .ok (.ldc 73, 2) := by decide +kernel
theorem d5_175 : decode Bc5 175 = .ok (.invokevirtual 75, 3) := by decide +kernel
theorem d5_178 : decode Bc5 178 = .ok (.ifCond .ne 15, 3) := by decide +kernel
theorem d5_181 : decode Bc5 181 = .ok (.aload_n 0, 1) := by decide +kernel
theorem d5_182 : decode Bc5 182 = .ok (.getfield 62, 3) := by decide +kernel
theorem d5_185 : decode Bc5 185 = .ok (.ldc 82, 2) := by decide +kernel
theorem d5_187 : decode Bc5 187 = .ok (.invokevirtual 75, 3) := by decide +kernel
theorem d5_190 : decode Bc5 190 = .ok (.ifCond .eq 7, 3) := by decide +kernel
theorem d5_197 : decode Bc5 197 = .ok (.iconst 0, 1) := by decide +kernel
theorem d5_198 : decode Bc5 198 = .ok (.putfield 84, 3) := by decide +kernel
theorem d5_201 : decode Bc5 201 = .ok (.return_, 1) := by decide +kernel
theorem d5_193 : decode Bc5 193 = .ok (.iconst 1, 1) := by decide +kernel
theorem d5_194 : decode Bc5 194 = .ok (.goto 4, 3) := by decide +kernel
theorem pn_5 : plainName "com/example/bundlewright/bundlewright/core/Name" = true := by first | (simp [plainName, overriddenIn]; done) | decide +kernel
abbrev Bc21 := prog_31_method_12_code
theorem d21_0 : decode Bc21 0 = .ok (.aload_n 0, 1) := by decide +kernel
theorem d21_1 : decode Bc21 1 = .ok (.getfield 25, 3) := by decide +kernel
theorem d21_4 : decode Bc21 4 = .ok (.astore 4, 2) := by decide +kernel
theorem d21_6 : decode Bc21 6 = .ok (.iload_n 3, 1) := by decide +kernel
theorem d21_7 : decode Bc21 7 = .ok (.iload_n 2, 1) := by decide +kernel
theorem d21_8 : decode Bc21 8 = .ok (.isub, 1) := by decide +kernel
theorem d21_9 : decode Bc21 9 = .ok (.aload 4, 2) := by decide +kernel
theorem d21_11 : decode Bc21 11 = .ok (.arraylength, 1) := by decide +kernel
theorem d21_12 : decode Bc21 12 = .ok (.if_icmp .eq 5, 3) := by decide +kernel
theorem d21_17 : decode Bc21 17 = .ok (.iconst 0, 1) := by decide +kernel
theorem d21_18 : decode Bc21 18 = .ok (.istore 5, 2) := by decide +kernel
theorem d21_20 : decode Bc21 20 = .ok (.iload 5, 2) := by decide +kernel
theorem d21_22 : decode Bc21 22 = .ok (.aload 4, 2) := by decide +kernel
theorem d21_24 : decode Bc21 24 = .ok (.arraylength, 1) := by decide +kernel
theorem d21_25 : decode Bc21 25 = .ok (.if_icmp .ge 25, 3) := by decide +kernel
theorem d21_28 : decode Bc21 28 = .ok (.aload_n 1, 1) := by decide +kernel
theorem d21_29 : decode Bc21 29 = .ok (.iload_n 2, 1) := by decide +kernel
theorem d21_30 : decode Bc21 30 = .ok (.iload 5, 2) := by decide +kernel
theorem d21_32 : decode Bc21 32 = .ok (.iadd, 1) := by decide +kernel
theorem d21_33 : decode Bc21 33 = .ok (.baload, 1) := by decide +kernel
theorem d21_34 : decode Bc21 34 = .ok (.aload 4, 2) := by decide +kernel
theorem d21_36 : decode Bc21 36 = .ok (.iload 5, 2) := by decide +kernel
theorem d21_38 : decode Bc21 38 = .ok (.baload, 1) := by decide +kernel
theorem d21_39 : decode Bc21 39 = .ok (.if_icmp .eq 5, 3) := by decide +kernel
theorem d21_44 : decode Bc21 44 = .ok (.iinc 5 1, 3) := by decide +kernel
theorem d21_47 : decode Bc21 47 = .ok (.goto (-27), 3) := by decide +kernel
theorem d21_50 : decode Bc21 50 = .ok (.iconst 1, 1) := by decide +kernel
theorem d21_51 : decode Bc21 51 = .ok (.ireturn, 1) := by decide +kernel
theorem d21_42 : decode Bc21 42 = .ok (.iconst 0, 1) := by decide +kernel
theorem d21_43 : decode Bc21 43 = .ok (.ireturn, 1) := by decide +kernel
theorem d21_15 : decode Bc21 15 = .ok (.iconst 0, 1) := by decide +kernel
theorem d21_16 : decode Bc21 16 = .ok (.ireturn, 1) := by decide +kernel
theorem pn_21 : plainName "com/example/bundlewright/bundlewright/core/Name" = true := by first | (simp [plainName, overriddenIn]; done) | decide +kernel
theorem pd__ICCCC_Ljava_lang_String_ : parseMethodDescriptor "(ICCCC)Ljava/lang/String;" = some ⟨[.int, .char, .char, .char, .char], some (.object "java/lang/String")⟩ := by decide +kernel
theorem pd__Ljava_lang_String_I_V : parseMethodDescriptor "(Ljava/lang/String;I)V" = some ⟨[(.object "java/lang/String"), .int], none⟩ := by decide +kernel
theorem pd___BII_Z : parseMethodDescriptor "([BII)Z" = some ⟨[(.array .byte), .int, .int], some .boolean⟩ := by decide +kernel
theorem pn_0 : plainName "com/example/bundlewright/bundlewright/core/NameIsPinLaw" = true := by first | (simp [plainName, overriddenIn]; done) | decide +kernel
theorem ef_rmC5_1 (m : MethodId) (x0 : Addr) (x1 : Int32) (x2 : Addr) (x3 : Int32) (x4 : Int32) : entryFrame m #[(.ref x0), (.int x1), (.ref x2), (.int x3), (.int x4)] 7 = mkF m 0 #[rv x0, iv x1, rv x2, iv x3, iv x4, .unset, .unset] [] := by first | (simp [entryFrame, mkF, argsToLocals, Value.category]; done) | rfl
def Q_rmC5_1 (Z : State) (u0 : Addr) (u2 : Addr) (kA : ClassId) (c0 : Int32) (kB : ClassId) (d0 : Int32) (h0 : Heap) (n0 : Nat) (v : Option Value) (h : Heap) (L : List Loc) : Prop := (v = (some (.int (1 : Int32))) ∧ Fr n0 L ∧ Keep h0 h [u2] ∧ Arv Z h u2 kB .byte (1 : Int32) [(.int c0)] (.int (0 : Int32)))
set_option maxRecDepth 65536 in
set_option maxHeartbeats 40000000 in
theorem rmC5_1 (l : Launch) (Z : State) (a0 : Array Value) (hw : ∀ d ∈ tables_1, d.before a0 Z = true) (ws : List Jvm.Cond) (u0 : Addr) (u2 : Addr) (kA : ClassId) (c0 : Int32) (kB : ClassId) (d0 : Int32) (h0 : Heap) (n0 : Nat) (Z0 : n0 ≤ h0.size) (P_V_u0 : Arv Z h0 u0 kA .char (1 : Int32) [(.int c0)] (.int (0 : Int32))) (P_V_u2 : Arv Z h0 u2 kB .byte (1 : Int32) [(.int d0)] (.int (0 : Int32))) (neA : u0 ≠ u2) (hc0 : ¬ c0 < 0 ∧ ¬ (127 : Int32) < c0) (g_u2 : n0 ≤ u2) :
    own_MF l own_y0 (Jvm.Cond.code own_y0 jdk_52_method_21_code 7 (some .int)) ws ({ frames := 0, cells := 0, slots := 0, locals := 0 } : Room) #[(.ref u0), (.int (0 : Int32)), (.ref u2), (.int (0 : Int32)), (.int (1 : Int32))] Z h0 (Q_rmC5_1 Z u0 u2 kA c0 kB d0 h0 n0) := by
  refine MetFree.of_bodySF (plainFor_of_name pn_23) hisR ?_
  intro p e s m args below meth c s₁ Bd hml0 hP hK
  obtain ⟨rfl, hZ, hh⟩ := hP
  have hx := Bd.exec
  have hby := Bd.bytes
  have hml : c.maxLocals = 7 := hml0
  have hown : s.vm.findClass "java/lang/StringUTF16" = some m.cls := findClass_of_methodNamed Bd.named
  have hnm := (name_of_methodNamed Bd.named Bd.method).1
  have X0 : Stand p l e ({ frames := 0, cells := 0, slots := 0, locals := 0 } : Room) s m #[(.ref u0), (.int (0 : Int32)), (.ref u2), (.int (0 : Int32)), (.int (1 : Int32))] below meth c s₁ [] 0 0 := Stand.of_body Bd
  have e0 : s₁.heap = h0 := by rw [← hh, Bd.state]; rfl
  have N0 := Fr.nil n0
  have pre0 : ∀ t, Steps p.tables e below (s₁.setTop (mkF m 0 #[rv u0, iv (0 : Int32), rv u2, iv (0 : Int32), iv (1 : Int32), .unset, .unset] [])) t → Steps p.tables e below (s₁.setTop (entryFrame m #[(.ref u0), (.int (0 : Int32)), (.ref u2), (.int (0 : Int32)), (.int (1 : Int32))] 7)) t := fun t k => castTop (ef_rmC5_1 m u0 (0 : Int32) u2 (0 : Int32) (1 : Int32)) k
  obtain ⟨cl1, Ar1, qq1, S1, N1_, H1, G1⟩ := id P_V_u0
  have hin1 : ¬ ((0 : Int32) < 0 ∨ cl1.slots.size ≤ ((0 : Int32)).toNatClampNeg) := inb_of S1 ⟨by decide, by decide⟩
  have hat1 : cl1.slots[((0 : Int32)).toNatClampNeg]? = some (.int c0) := H1.at hin1 rfl
  obtain ⟨cl2, Ar2, qq2, S2, N2_, H2, G2⟩ := id P_V_u2
  have hin2 : ¬ ((0 : Int32) < 0 ∨ cl2.slots.size ≤ ((0 : Int32)).toNatClampNeg) := inb_of S2 ⟨by decide, by decide⟩
  obtain ⟨T3, h3, X3, e3, W3, st3⟩ := stB X0 hx hZ e0 Ar2 (j := (0 : Int32)) hin2 (g := (mkF m 31 #[rv u0, iv (0 : Int32), rv u2, iv (0 : Int32), iv (1 : Int32), iv (0 : Int32), iv c0] [(.int c0), (.int (0 : Int32)), (.ref u2)])) rfl rfl (hb hby d23_31)
  have V3 : Arv Z h3 u2 kB .byte (1 : Int32) [(.int c0)] (.int (0 : Int32)) := by have q_ := Arv.set Ar2 qq2 S2 N2_ H2 G2 (fits_nar_byte _) W3 0 rfl (Nat.le_of_ble_eq_true rfl); rw [own_n1 hc0] at q_; exact q_
  have N4 := Fr.snoc X3 N0 g_u2
  have K5 : Keep h0 h3 [u2] := (Keep.refl h0 [u2]).wr W3 (Or.inl (List.mem_of_getElem? (i := 0) rfl))
  obtain ⟨fs, hr, hrun, hended, hW, hsame⟩ := X3.leave (v := some (.int (1 : Int32))) (fun h => by rw [Bd.returns] at h; cases h)
  refine ⟨_, _, pre0 _ ?_, hrun, hended, _, _, rfl, ?_, ⟨_, rfl⟩, hW, hsame.mono (by decide) (by decide)⟩
  · refine XS.iconst X0.here hx rfl (hb hby d23_0) ?_
    refine XS.istore X0.here hx rfl (hb hby d23_1) rfl (l' := #[rv u0, iv (0 : Int32), rv u2, iv (0 : Int32), iv (1 : Int32), iv (0 : Int32), .unset]) rfl ?_
    refine XS.iload X0.here hx rfl (hb hby d23_3) rfl ?_
    refine XS.iload X0.here hx rfl (hb hby d23_5) rfl ?_
    refine XS.icmpNo X0.here hx rfl (hb hby d23_7) rfl (tlt (by decide : (0 : Int32) < (1 : Int32))).2.1 ?_
    refine XS.aloadN X0.here hx rfl (hb hby d23_10) rfl rfl ?_
    refine XS.iloadN X0.here hx rfl (hb hby d23_11) rfl ?_
    refine X0.caload hx (j := (0 : Int32)) (v := (.int c0)) (by rw [e0]; exact Ar1.1) (State.isArrayOf_alike hZ.alike Ar1.2.1) Ar1.2.2 hin1 hat1 (g := (mkF m 12 #[rv u0, iv (0 : Int32), rv u2, iv (0 : Int32), iv (1 : Int32), iv (0 : Int32), .unset] [(.int (0 : Int32)), (.ref u0)])) rfl rfl (hb hby d23_12) _ ?_
    refine XS.istore X0.here hx rfl (hb hby d23_13) rfl (l' := #[rv u0, iv (0 : Int32), rv u2, iv (0 : Int32), iv (1 : Int32), iv (0 : Int32), iv c0]) rfl ?_
    refine XS.iload X0.here hx rfl (hb hby d23_15) rfl ?_
    refine XS.sipush X0.here hx rfl (hb hby d23_17) ?_
    refine XS.icmpYes X0.here hx rfl (pc0 := 20) (pc' := 26) rfl (hb hby d23_20) rfl (flt (own_le hc0)).2.2.2 (by decide) (by decide) ?_
    refine XS.aloadN X0.here hx rfl (hb hby d23_26) rfl rfl ?_
    refine XS.iloadN X0.here hx rfl (hb hby d23_27) rfl ?_
    refine XS.iload X0.here hx rfl (hb hby d23_28) rfl ?_
    refine XS.i2b X0.here hx rfl (hb hby d23_30) rfl ?_
    show Steps _ _ _ (s₁.setTop (mkF m 31 #[rv u0, iv (0 : Int32), rv u2, iv (0 : Int32), iv (1 : Int32), iv (0 : Int32), iv c0] [(.int (c0.toInt8.toInt32)), (.int (0 : Int32)), (.ref u2)])) _
    rw [own_n1 hc0]
    refine st3 _ ?_
    refine XS.iinc X3.here hx rfl (hb hby d23_32) rfl (l' := #[rv u0, iv (1 : Int32), rv u2, iv (0 : Int32), iv (1 : Int32), iv (0 : Int32), iv c0]) rfl ?_
    refine XS.iinc X3.here hx rfl (hb hby d23_35) rfl (l' := #[rv u0, iv (1 : Int32), rv u2, iv (1 : Int32), iv (1 : Int32), iv (0 : Int32), iv c0]) rfl ?_
    refine XS.iinc X3.here hx rfl (hb hby d23_38) rfl (l' := #[rv u0, iv (1 : Int32), rv u2, iv (1 : Int32), iv (1 : Int32), iv (1 : Int32), iv c0]) rfl ?_
    refine XS.goto X3.here hx rfl (pc0 := 41) (pc' := 3) rfl (hb hby d23_41) (by decide) (by decide) ?_
    refine XS.iload X3.here hx rfl (hb hby d23_3) rfl ?_
    refine XS.iload X3.here hx rfl (hb hby d23_5) rfl ?_
    show Steps _ _ _ (T3.setTop (mkF m 7 #[rv u0, iv (1 : Int32), rv u2, iv (1 : Int32), iv (1 : Int32), iv (1 : Int32), iv c0] [(.int (1 : Int32)), (.int (1 : Int32))])) _
    refine XS.icmpYes X3.here hx rfl (pc0 := 7) (pc' := 44) rfl (hb hby d23_7) rfl (flt (by decide : ¬ ((1 : Int32) < (1 : Int32)))).2.1 (by decide) (by decide) ?_
    refine XS.iload X3.here hx rfl (hb hby d23_44) rfl ?_
    show Steps _ _ _ (T3.setTop (mkF m 46 #[rv u0, iv (1 : Int32), rv u2, iv (1 : Int32), iv (1 : Int32), iv (1 : Int32), iv c0] [(.int (1 : Int32))])) _
    exact retI X3 hx Bd.returns (hb hby d23_46) hr
  · show Q_rmC5_1 Z u0 u2 kA c0 kB d0 h0 n0 _ T3.heap _
    rw [e3]
    exact ⟨rfl, N4, K5, V3⟩

theorem ef_rmC3_1 (m : MethodId) (x0 : Addr) (x1 : Int32) (x2 : Int32) : entryFrame m #[(.ref x0), (.int x1), (.int x2)] 6 = mkF m 0 #[rv x0, iv x1, iv x2, .unset, .unset, .unset] [] := by first | (simp [entryFrame, mkF, argsToLocals, Value.category]; done) | rfl
def Q_rmC3_1 (Z : State) (u0 : Addr) (kA : ClassId) (c0 : Int32) (h0 : Heap) (n0 : Nat) (v : Option Value) (h : Heap) (L : List Loc) : Prop := ∃ (t : Addr), ∃ (kt : ClassId), (v = (some (.ref t)) ∧ Fr n0 L ∧ Keep h0 h [] ∧ h0.size ≤ t ∧ Exa Z h t "[B" ∧ Arv Z h t kt .byte (1 : Int32) [(.int c0)] (.int (0 : Int32)))
set_option maxRecDepth 65536 in
set_option maxHeartbeats 40000000 in
theorem rmC3_1 (l : Launch) (Z : State) (a0 : Array Value) (hw : ∀ d ∈ tables_1, d.before a0 Z = true) (ws : List Jvm.Cond) (u0 : Addr) (kA : ClassId) (c0 : Int32) (h0 : Heap) (n0 : Nat) (Z0 : n0 ≤ h0.size) (P_V_u0 : Arv Z h0 u0 kA .char (1 : Int32) [(.int c0)] (.int (0 : Int32))) (hc0 : ¬ c0 < 0 ∧ ¬ (127 : Int32) < c0) :
    own_MF l own_y1 (Jvm.Cond.code own_y1 jdk_52_method_16_code 6 (some (.array .byte))) ws ({ frames := 1, cells := 1, slots := 1, locals := 18 } : Room) #[(.ref u0), (.int (0 : Int32)), (.int (1 : Int32))] Z h0 (Q_rmC3_1 Z u0 kA c0 h0 n0) := by
  refine MetFree.of_bodySF (plainFor_of_name pn_22) hisR ?_
  intro p e s m args below meth c s₁ Bd hml0 hP hK
  obtain ⟨rfl, hZ, hh⟩ := hP
  have hx := Bd.exec
  have hby := Bd.bytes
  have hml : c.maxLocals = 6 := hml0
  have hown : s.vm.findClass "java/lang/StringUTF16" = some m.cls := findClass_of_methodNamed Bd.named
  have hnm := (name_of_methodNamed Bd.named Bd.method).1
  have X0 : Stand p l e ({ frames := 1, cells := 1, slots := 1, locals := 18 } : Room) s m #[(.ref u0), (.int (0 : Int32)), (.int (1 : Int32))] below meth c s₁ [] 0 0 := Stand.of_body Bd
  have e0 : s₁.heap = h0 := by rw [← hh, Bd.state]; rfl
  have N0 := Fr.nil n0
  have pre0 : ∀ t, Steps p.tables e below (s₁.setTop (mkF m 0 #[rv u0, iv (0 : Int32), iv (1 : Int32), .unset, .unset, .unset] [])) t → Steps p.tables e below (s₁.setTop (entryFrame m #[(.ref u0), (.int (0 : Int32)), (.int (1 : Int32))] 6)) t := fun t k => castTop (ef_rmC3_1 m u0 (0 : Int32) (1 : Int32)) k
  obtain ⟨T1, h1, k1, X1, e1, E1, A1, Q1, st1⟩ := newPE X0 hx hZ (own_g hw 21 rfl) e0 (g := (mkF m 1 #[rv u0, iv (0 : Int32), iv (1 : Int32), .unset, .unset, .unset] [(.int (1 : Int32))])) rfl (hb hby d22_1) rfl (by decide) (cap := 1) (by decide) (by decide) (by decide) (by decide) (ad := "[B") rfl
  obtain ⟨b1, g1⟩ : ∃ z, z = h0.size := ⟨_, rfl⟩
  rw [← g1] at A1 st1 Q1
  have ne2 : u0 ≠ b1 := Nat.ne_of_lt (Nat.lt_of_lt_of_le P_V_u0.lt (Nat.le_of_eq g1.symm))
  have o1 : n0 ≤ b1 := Nat.le_trans Z0 (Nat.le_of_eq g1.symm)
  have z1 : h0.size ≤ b1 := Nat.le_trans (Keep.refl h0 []).1 (Nat.le_of_eq g1.symm)
  have K1 : Keep h0 h1 [] := (Keep.refl h0 []).ext E1
  have V1 : Arv Z h1 b1 k1 .byte (1 : Int32) [(.int (0 : Int32))] (.int (0 : Int32)) := (Arv.new A1 (by decide)).pad (pad_rep [] (.int (0 : Int32)) 1)
  have f3 := (P_V_u0.ext E1)
  have f4 := (Nat.le_trans Z0 E1.1)
  obtain ⟨_, _, ⟨T5, L5, k5, n5⟩, -, X5, ⟨Lc5, hQ5, l5, y5, z5⟩, st5⟩ := Jvm.LawKit.callS X1 hx (y := own_y0) hown (mvT hZ (own_g hw 144 rfl)) (mvT hZ (own_g hw 145 rfl)) (mvT hZ (own_g hw 142 rfl)) (mvT hZ (own_g hw 146 rfl)) (by decide) (backOf (W := 0) (rmC5_1 l Z a0 hw [] u0 b1 kA c0 k1 (0 : Int32) h1 n0 f4 f3 V1 ne2 hc0 o1) hZ (own_g hw 146 rfl) (own_g hw 142 rfl) (by decide) (by decide)) (g := (mkF m 9 #[rv u0, iv (0 : Int32), iv (1 : Int32), rv b1, .unset, .unset] [(.int (1 : Int32)), (.int (0 : Int32)), (.ref b1), (.int (0 : Int32)), (.ref u0)])) rfl (by rw [hml]; rfl) (argsL := [(.ref u0), (.int (0 : Int32)), (.ref b1), (.int (0 : Int32)), (.int (1 : Int32))]) (rest := []) (lenOf pd___CI_BII_I rfl) rfl (by show 2 * 0 + _ ≤ _; exact Nat.le_of_eq rfl) (hb hby d22_9) (fun _ _ => ⟨rfl, e1, (by decide : 1 + 0 ≤ _), (by decide : 1 + 0 ≤ _)⟩)
  dsimp only [Pt.U, Pt.locs, Pt.cells, Pt.slots] at X5 l5 y5 z5 st5 hQ5
  subst l5 y5 z5
  obtain ⟨rfl, N5q, K5, f6⟩ := hQ5
  have KK5 : Keep h0 T5.heap [] := Keep.trans K1 K5 (allS (Or.inr z1) all0)
  have N5 := Fr.app N0 N5q
  obtain ⟨fs, hr, hrun, hended, hW, hsame⟩ := X5.leave (v := some (.ref b1)) (fun h => by rw [Bd.returns] at h; cases h)
  have f7 := (Q1.keep K5)
  refine ⟨_, _, pre0 _ ?_, hrun, hended, _, _, rfl, ?_, ⟨_, rfl⟩, hW, hsame.mono (by decide) (by decide)⟩
  · refine XS.iloadN X0.here hx rfl (hb hby d22_0) rfl ?_
    refine st1 _ ?_
    refine XS.astoreN X1.here hx rfl (hb hby d22_3) rfl rfl (l' := #[rv u0, iv (0 : Int32), iv (1 : Int32), rv b1, .unset, .unset]) rfl ?_
    refine XS.aloadN X1.here hx rfl (hb hby d22_4) rfl rfl ?_
    refine XS.iloadN X1.here hx rfl (hb hby d22_5) rfl ?_
    refine XS.aloadN X1.here hx rfl (hb hby d22_6) rfl rfl ?_
    refine XS.iconst X1.here hx rfl (hb hby d22_7) ?_
    refine XS.iloadN X1.here hx rfl (hb hby d22_8) rfl ?_
    show Steps _ _ _ (T1.setTop (mkF m 9 #[rv u0, iv (0 : Int32), iv (1 : Int32), rv b1, .unset, .unset] [(.int (1 : Int32)), (.int (0 : Int32)), (.ref b1), (.int (0 : Int32)), (.ref u0)])) _
    refine st5 _ ?_
    refine XS.istore X5.here hx rfl (hb hby d22_12) rfl (l' := #[rv u0, iv (0 : Int32), iv (1 : Int32), rv b1, iv (1 : Int32), .unset]) rfl ?_
    refine XS.iload X5.here hx rfl (hb hby d22_14) rfl ?_
    refine XS.iloadN X5.here hx rfl (hb hby d22_16) rfl ?_
    refine XS.icmpYes X5.here hx rfl (pc0 := 17) (pc' := 57) rfl (hb hby d22_17) rfl (teq (by decide : (1 : Int32) = (1 : Int32))).1 (by decide) (by decide) ?_
    refine XS.aloadN X5.here hx rfl (hb hby d22_57) rfl rfl ?_
    show Steps _ _ _ (T5.setTop (mkF m 58 #[rv u0, iv (0 : Int32), iv (1 : Int32), rv b1, iv (1 : Int32), .unset] [(.ref b1)])) _
    exact retOut X5 hx Bd.returns rfl (Or.inr (Or.inr (Or.inr (Or.inr ⟨rfl, rfl, rfl⟩)))) (hb hby d22_58) hr
  · show Q_rmC3_1 Z u0 kA c0 h0 n0 _ T5.heap _
    exact ⟨b1, k1, rfl, N5, KK5, z1, f7, f6⟩

theorem ef_rmCF1 (m : MethodId) (x0 : Addr) (x1 : Int32) : entryFrame m #[(.ref x0), (.int x1)] 2 = mkF m 0 #[rv x0, iv x1] [] := by first | (simp [entryFrame, mkF, argsToLocals, Value.category]; done) | rfl
set_option maxRecDepth 65536 in
set_option maxHeartbeats 40000000 in
theorem rmCF1 (l : Launch) (Z : State) (a0 : Array Value) (hw : ∀ d ∈ tables_1, d.before a0 Z = true) (ws : List Jvm.Cond) (u0 : Addr) (kt : ClassId) (vs : List Value) (h0 : Heap) (n0 : Nat) (Z0 : n0 ≤ h0.size) (P_G_u0 : Arv Z h0 u0 kt .byte (1 : Int32) vs (.int 0)) :
    own_MF l own_y2 (Jvm.Cond.code own_y2 jdk_52_method_15_code 2 (some .byte)) ws ({ frames := 0, cells := 0, slots := 0, locals := 0 } : Room) #[(.ref u0), (.int (1 : Int32))] Z h0 (own_QP (some (.int (0 : Int32))) h0 n0) := by
  refine MetFree.of_bodySF (plainFor_of_name pn_24) hisR ?_
  intro p e s m args below meth c s₁ Bd hml0 hP hK
  obtain ⟨rfl, hZ, hh⟩ := hP
  have hx := Bd.exec
  have hby := Bd.bytes
  have hml : c.maxLocals = 2 := hml0
  have hown : s.vm.findClass "java/lang/StringUTF16" = some m.cls := findClass_of_methodNamed Bd.named
  have hnm := (name_of_methodNamed Bd.named Bd.method).1
  have X0 : Stand p l e ({ frames := 0, cells := 0, slots := 0, locals := 0 } : Room) s m #[(.ref u0), (.int (1 : Int32))] below meth c s₁ [] 0 0 := Stand.of_body Bd
  have e0 : s₁.heap = h0 := by rw [← hh, Bd.state]; rfl
  have N0 := Fr.nil n0
  have pre0 : ∀ t, Steps p.tables e below (s₁.setTop (mkF m 0 #[rv u0, iv (1 : Int32)] [])) t → Steps p.tables e below (s₁.setTop (entryFrame m #[(.ref u0), (.int (1 : Int32))] 2)) t := fun t k => castTop (ef_rmCF1 m u0 (1 : Int32)) k
  obtain ⟨cl1, Ar1, qq1, S1, N1_, H1, G1⟩ := id P_G_u0
  obtain ⟨fs, hr, hrun, hended, hW, hsame⟩ := X0.leave (v := some (.int (0 : Int32))) (fun h => by rw [Bd.returns] at h; cases h)
  refine ⟨_, _, pre0 _ ?_, hrun, hended, _, _, rfl, ?_, ⟨_, rfl⟩, hW, hsame.mono (by decide) (by decide)⟩
  · refine XS.iloadN X0.here hx rfl (hb hby d24_0) rfl ?_
    refine XS.aloadN X0.here hx rfl (hb hby d24_1) rfl rfl ?_
    refine X0.arraylength hx (by rw [e0]; exact Ar1.1) (State.isArrayOf_alike hZ.alike Ar1.2.1) (g := (mkF m 2 #[rv u0, iv (1 : Int32)] [(.ref u0), (.int (1 : Int32))])) rfl rfl (hb hby d24_2) _ ?_
    rw [len_of S1 N1_]
    refine XS.isub X0.here hx rfl (hb hby d24_3) rfl ?_
    refine XS.bipush X0.here hx rfl (hb hby d24_4) ?_
    refine XS.iushr X0.here hx rfl (hb hby d24_6) rfl ?_
    show Steps _ _ _ (s₁.setTop (mkF m 7 #[rv u0, iv (1 : Int32)] [(.int (((0 : Int32).toUInt32 >>> ((31 : Int32) &&& 31).toUInt32).toInt32))])) _
    rw [(by decide : (((0 : Int32).toUInt32 >>> ((31 : Int32) &&& 31).toUInt32).toInt32) = (0 : Int32))]
    refine XS.i2b X0.here hx rfl (hb hby d24_7) rfl ?_
    show Steps _ _ _ (s₁.setTop (mkF m 8 #[rv u0, iv (1 : Int32)] [(.int ((0 : Int32).toInt8.toInt32))])) _
    rw [(by decide : ((0 : Int32).toInt8.toInt32) = (0 : Int32))]
    show Steps _ _ _ (s₁.setTop (mkF m 8 #[rv u0, iv (1 : Int32)] [(.int (0 : Int32))])) _
    exact retN X0 hx (t := .byte) Bd.returns (by simp) (hb hby d24_8) hr
  · show own_QP (some (.int (0 : Int32))) h0 n0 _ s₁.heap _
    rw [e0]
    exact ⟨rfl, N0, rfl⟩

theorem ef_rmI4_1 (m : MethodId) (x0 : Addr) (x1 : Addr) (x2 : Int32) (x3 : Int32) : entryFrame m #[(.ref x0), (.ref x1), (.int x2), (.int x3), .null] 6 = mkF m 0 #[rv x0, rv x1, iv x2, iv x3, .val .null, .unset] [] := by first | (simp [entryFrame, mkF, argsToLocals, Value.category]; done) | rfl
def Q_rmI4_1 (Z : State) (u0 : Addr) (u1 : Addr) (kA : ClassId) (c0 : Int32) (zC : Int32) (h0 : Heap) (n0 : Nat) (v : Option Value) (h : Heap) (L : List Loc) : Prop := ∃ (t : Addr), ∃ (kt : ClassId), (v = none ∧ Fr n0 L ∧ Keep h0 h [u0] ∧ h0.size ≤ t ∧ Exa Z h u0 "java/lang/String" ∧ Fld Z h u0 "java/lang/String" "value" "[B" (.ref t) ∧ Fld Z h u0 "java/lang/String" "coder" "B" (.int (0 : Int32)) ∧ Exa Z h t "[B" ∧ Arv Z h t kt .byte (1 : Int32) [(.int c0)] (.int (0 : Int32)))
set_option maxRecDepth 65536 in
set_option maxHeartbeats 40000000 in
theorem rmI4_1 (l : Launch) (Z : State) (a0 : Array Value) (hw : ∀ d ∈ tables_1, d.before a0 Z = true) (ws : List Jvm.Cond) (u0 : Addr) (u1 : Addr) (kA : ClassId) (c0 : Int32) (zC : Int32) (h0 : Heap) (n0 : Nat) (Z0 : n0 ≤ h0.size) (P_E_u0 : Exa Z h0 u0 "java/lang/String") (P_F_u0_String_value : Fld Z h0 u0 "java/lang/String" "value" "[B" .null) (P_F_u0_String_coder : Fld Z h0 u0 "java/lang/String" "coder" "B" (.int (0 : Int32))) (P_V_u1 : Arv Z h0 u1 kA .char (1 : Int32) [(.int c0)] (.int (0 : Int32))) (neA : u0 ≠ u1) (hc0 : ¬ c0 < 0 ∧ ¬ (127 : Int32) < c0) (P_S_String_COMPACT_STRINGS : Sta Z h0 "java/lang/String" "COMPACT_STRINGS" "Z" (.int zC)) (hz : ¬ (zC = (0 : Int32))) (g_u0 : n0 ≤ u0) :
    own_MF l own_y3 (Jvm.Cond.code own_y3 jdk_42_method_149_code 6 none) ws ({ frames := 2, cells := 1, slots := 1, locals := 35 } : Room) #[(.ref u0), (.ref u1), (.int (0 : Int32)), (.int (1 : Int32)), .null] Z h0 (Q_rmI4_1 Z u0 u1 kA c0 zC h0 n0) := by
  refine MetFree.of_bodySF (plainFor_of_name pn_3) hisR ?_
  intro p e s m args below meth c s₁ Bd hml0 hP hK
  obtain ⟨rfl, hZ, hh⟩ := hP
  have hx := Bd.exec
  have hby := Bd.bytes
  have hml : c.maxLocals = 6 := hml0
  have hown : s.vm.findClass "java/lang/String" = some m.cls := findClass_of_methodNamed Bd.named
  have hnm := (name_of_methodNamed Bd.named Bd.method).1
  have X0 : Stand p l e ({ frames := 2, cells := 1, slots := 1, locals := 35 } : Room) s m #[(.ref u0), (.ref u1), (.int (0 : Int32)), (.int (1 : Int32)), .null] below meth c s₁ [] 0 0 := Stand.of_body Bd
  have e0 : s₁.heap = h0 := by rw [← hh, Bd.state]; rfl
  have N0 := Fr.nil n0
  have pre0 : ∀ t, Steps p.tables e below (s₁.setTop (mkF m 0 #[rv u0, rv u1, iv (0 : Int32), iv (1 : Int32), .val .null, .unset] [])) t → Steps p.tables e below (s₁.setTop (entryFrame m #[(.ref u0), (.ref u1), (.int (0 : Int32)), (.int (1 : Int32)), .null] 6)) t := fun t k => castTop (ef_rmI4_1 m u0 u1 (0 : Int32) (1 : Int32)) k
  obtain ⟨T1, X1, e1, st1⟩ := initO X0 hx hZ hown (own_g hw 17 rfl) (own_g hw 18 rfl) (own_g hw 19 rfl) e0 (g := (mkF m 1 #[rv u0, rv u1, iv (0 : Int32), iv (1 : Int32), .val .null, .unset] [(.ref u0)])) rfl (by rw [hml]; rfl) rfl (hb hby d3_1) (by decide) (W := 0) (by show 2 * 0 + _ ≤ _; exact Nat.le_of_eq rfl) (by decide)
  obtain ⟨T2, X2, e2, st2⟩ := getS2 X1 hx hZ hown (host := "") (Or.inl (own_g hw 49 rfl)) Via.refl e1 P_S_String_COMPACT_STRINGS (g := (mkF m 27 #[rv u0, rv u1, iv (0 : Int32), iv (1 : Int32), .val .null, .unset] [])) rfl (hb hby d3_27)
  obtain ⟨_, _, ⟨T3, L3, k3, n3⟩, -, X3, ⟨Lc3, hQ3, l3, y3, z3⟩, st3⟩ := Jvm.LawKit.callS X2 hx (y := own_y1) hown (mvT hZ (own_g hw 140 rfl)) (mvT hZ (own_g hw 141 rfl)) (mvT hZ (own_g hw 142 rfl)) (mvT hZ (own_g hw 143 rfl)) (by decide) (backOf (W := 0) (rmC3_1 l Z a0 hw [] u1 kA c0 h0 n0 Z0 P_V_u1 hc0) hZ (own_g hw 143 rfl) (own_g hw 142 rfl) (by decide) (by decide)) (g := (mkF m 36 #[rv u0, rv u1, iv (0 : Int32), iv (1 : Int32), .val .null, .unset] [(.int (1 : Int32)), (.int (0 : Int32)), (.ref u1)])) rfl (by rw [hml]; rfl) (argsL := [(.ref u1), (.int (0 : Int32)), (.int (1 : Int32))]) (rest := []) (lenOf pd___CII__B rfl) rfl (by show 2 * 0 + _ ≤ _; exact Nat.le_of_eq rfl) (hb hby d3_36) (fun _ _ => ⟨rfl, e2, (by decide : 0 + 1 ≤ _), (by decide : 0 + 1 ≤ _)⟩)
  dsimp only [Pt.U, Pt.locs, Pt.cells, Pt.slots] at X3 l3 y3 z3 st3 hQ3
  subst l3 y3 z3
  obtain ⟨t_3, kt_3, rfl, N3q, K3, sx3_0, f4, f5⟩ := hQ3
  have ot_3 : n0 ≤ t_3 := Nat.le_trans Z0 sx3_0
  have zt_3 : h0.size ≤ t_3 := Nat.le_trans (Keep.refl h0 [u0]).1 sx3_0
  have ne6 : u0 ≠ t_3 := Nat.ne_of_lt (Nat.lt_of_lt_of_le P_E_u0.lt sx3_0)
  have ne7 : u1 ≠ t_3 := Nat.ne_of_lt (Nat.lt_of_lt_of_le P_V_u1.lt sx3_0)
  have KK3 : Keep h0 T3.heap [u0] := Keep.trans (Keep.refl h0 [u0]) K3 all0
  have N3 := Fr.app N0 N3q
  have f8 := (Nat.le_trans Z0 K3.1)
  obtain ⟨_, _, ⟨T9, L9, k9, n9⟩, -, X9, ⟨Lc9, hQ9, l9, y9, z9⟩, st9⟩ := Jvm.LawKit.callS X3 hx (y := own_y2) hown (mvT hZ (own_g hw 147 rfl)) (mvT hZ (own_g hw 148 rfl)) (mvT hZ (own_g hw 142 rfl)) (mvT hZ (own_g hw 149 rfl)) (by decide) (backOf (W := 1) (rmCF1 l Z a0 hw [] t_3 kt_3 [(.int c0)] T3.heap n0 f8 f5) hZ (own_g hw 149 rfl) (own_g hw 142 rfl) (by decide) (by decide)) (g := (mkF m 45 #[rv u0, rv u1, iv (0 : Int32), iv (1 : Int32), .val .null, rv t_3] [(.int (1 : Int32)), (.ref t_3), (.ref u0)])) rfl (by rw [hml]; rfl) (argsL := [(.ref t_3), (.int (1 : Int32))]) (rest := [(.ref u0)]) (lenOf pd___BI_B rfl) rfl (by show 2 * 0 + _ ≤ _; exact Nat.le_of_eq rfl) (hb hby d3_45) (fun _ _ => ⟨rfl, rfl, (by decide : 1 + 0 ≤ _), (by decide : 1 + 0 ≤ _)⟩)
  dsimp only [Pt.U, Pt.locs, Pt.cells, Pt.slots] at X9 l9 y9 z9 st9 hQ9
  subst l9 y9 z9
  obtain ⟨rfl, N9q, e9⟩ := hQ9
  have N9 := Fr.app N3 N9q
  have f10 := (P_E_u0.keep K3)
  have f11 := (P_F_u0_String_coder.keep K3 nin0)
  obtain ⟨T12, h12, X12, e12, W12, st12⟩ := putFN X9 hx hZ hown (own_g hw 27 rfl) Via.refl e9 f11 f10 (Or.inr ⟨(own_g hw 23 rfl), rfl, hnm⟩) (own_g hw 7 rfl) (ty := .byte) (v' := (.int (0 : Int32))) (by decide) rfl rfl (g := (mkF m 48 #[rv u0, rv u1, iv (0 : Int32), iv (1 : Int32), .val .null, rv t_3] [(.int (0 : Int32)), (.ref u0)])) rfl rfl (hb hby d3_48)
  have f12_ : Fld Z h12 u0 "java/lang/String" "coder" "B" (.int (0 : Int32)) := f11.same W12
  have N13 := Fr.snoc X12 N9 g_u0
  have K14 : Keep h0 h12 [u0] := KK3.wr W12 (Or.inl (List.mem_of_getElem? (i := 0) rfl))
  have f15 := (f10.wr W12)
  have f16 := ((P_F_u0_String_value.keep K3 nin0).other W12 (Or.inr (slot_ne (Or.inr (own_g hw 22 rfl)) (Or.inr (own_g hw 23 rfl)) (by decide) (t := (.array .byte)) (t' := .byte) (by decide) (by decide))))
  obtain ⟨T17, h17, X17, e17, W17, st17⟩ := putF X12 hx hZ hown (host := "") (Or.inl (own_g hw 26 rfl)) Via.refl e12 f16 f15 (Or.inr ⟨(own_g hw 22 rfl), rfl, hnm⟩) (own_g hw 7 rfl) (ty := (.array .byte)) (by decide) rfl rfl (g := (mkF m 54 #[rv u0, rv u1, iv (0 : Int32), iv (1 : Int32), .val .null, rv t_3] [(.ref t_3), (.ref u0)])) rfl rfl (hb hby d3_54)
  have f17_ : Fld Z h17 u0 "java/lang/String" "value" "[B" (.ref t_3) := f16.same W17
  have N18 := Fr.snoc X17 N13 g_u0
  have K19 : Keep h0 h17 [u0] := K14.wr W17 (Or.inl (List.mem_of_getElem? (i := 0) rfl))
  obtain ⟨fs, hr, hrun, hended, hW, hsame⟩ := X17.leave (v := none) (fun _ => rfl)
  have f20 := (f15.wr W17)
  have f21 := (f12_.other W17 (Or.inr (slot_ne (Or.inr (own_g hw 23 rfl)) (Or.inr (own_g hw 22 rfl)) (by decide) (t := .byte) (t' := (.array .byte)) (by decide) (by decide))))
  have f22 := ((f4.wr W12).wr W17)
  have f23 := ((f5.other W12 (Ne.symm ne6)).other W17 (Ne.symm ne6))
  refine ⟨_, _, pre0 _ ?_, hrun, hended, _, _, rfl, ?_, ⟨_, rfl⟩, hW, hsame.mono (by decide) (by decide)⟩
  · refine XS.aloadN X0.here hx rfl (hb hby d3_0) rfl rfl ?_
    show Steps _ _ _ (s₁.setTop (mkF m 1 #[rv u0, rv u1, iv (0 : Int32), iv (1 : Int32), .val .null, .unset] [(.ref u0)])) _
    refine st1 _ ?_
    refine XS.iloadN X1.here hx rfl (hb hby d3_4) rfl ?_
    refine XS.ifYes X1.here hx rfl (pc0 := 5) (pc' := 27) rfl (hb hby d3_5) rfl ((if0 _ _).trans (feq (by decide : ¬ ((1 : Int32) = (0 : Int32)))).2) (by decide) (by decide) ?_
    refine st2 _ ?_
    refine XS.ifNo X2.here hx rfl (hb hby d3_30) rfl ((if0 _ _).trans (feq hz).1) ?_
    refine XS.aloadN X2.here hx rfl (hb hby d3_33) rfl rfl ?_
    refine XS.iloadN X2.here hx rfl (hb hby d3_34) rfl ?_
    refine XS.iloadN X2.here hx rfl (hb hby d3_35) rfl ?_
    show Steps _ _ _ (T2.setTop (mkF m 36 #[rv u0, rv u1, iv (0 : Int32), iv (1 : Int32), .val .null, .unset] [(.int (1 : Int32)), (.int (0 : Int32)), (.ref u1)])) _
    refine st3 _ ?_
    refine XS.astore X3.here hx rfl (hb hby d3_39) rfl rfl (l' := #[rv u0, rv u1, iv (0 : Int32), iv (1 : Int32), .val .null, rv t_3]) rfl ?_
    refine XS.aloadN X3.here hx rfl (hb hby d3_41) rfl rfl ?_
    refine XS.aload X3.here hx rfl (hb hby d3_42) rfl rfl ?_
    refine XS.iloadN X3.here hx rfl (hb hby d3_44) rfl ?_
    show Steps _ _ _ (T3.setTop (mkF m 45 #[rv u0, rv u1, iv (0 : Int32), iv (1 : Int32), .val .null, rv t_3] [(.int (1 : Int32)), (.ref t_3), (.ref u0)])) _
    refine st9 _ ?_
    refine st12 _ ?_
    refine XS.aloadN X12.here hx rfl (hb hby d3_51) rfl rfl ?_
    refine XS.aload X12.here hx rfl (hb hby d3_52) rfl rfl ?_
    refine st17 _ ?_
    show Steps _ _ _ (T17.setTop (mkF m 57 #[rv u0, rv u1, iv (0 : Int32), iv (1 : Int32), .val .null, rv t_3] [])) _
    exact X17.returnOut hx Bd.returns (hb hby d3_57) hr
  · show Q_rmI4_1 Z u0 u1 kA c0 zC h0 n0 _ T17.heap _
    rw [e17]
    exact ⟨t_3, kt_3, rfl, N18, K19, zt_3, f20, f17_, f21, f22, f23⟩

theorem ef_rmI1_1 (m : MethodId) (x0 : Addr) (x1 : Addr) : entryFrame m #[(.ref x0), (.ref x1)] 2 = mkF m 0 #[rv x0, rv x1] [] := by first | (simp [entryFrame, mkF, argsToLocals, Value.category]; done) | rfl
def Q_rmI1_1 (Z : State) (u0 : Addr) (u1 : Addr) (kA : ClassId) (c0 : Int32) (zC : Int32) (h0 : Heap) (n0 : Nat) (v : Option Value) (h : Heap) (L : List Loc) : Prop := ∃ (t : Addr), ∃ (kt : ClassId), (v = none ∧ Fr n0 L ∧ Keep h0 h [u0] ∧ h0.size ≤ t ∧ Exa Z h u0 "java/lang/String" ∧ Fld Z h u0 "java/lang/String" "value" "[B" (.ref t) ∧ Fld Z h u0 "java/lang/String" "coder" "B" (.int (0 : Int32)) ∧ Exa Z h t "[B" ∧ Arv Z h t kt .byte (1 : Int32) [(.int c0)] (.int (0 : Int32)))
set_option maxRecDepth 65536 in
set_option maxHeartbeats 40000000 in
theorem rmI1_1 (l : Launch) (Z : State) (a0 : Array Value) (hw : ∀ d ∈ tables_1, d.before a0 Z = true) (ws : List Jvm.Cond) (u0 : Addr) (u1 : Addr) (kA : ClassId) (c0 : Int32) (zC : Int32) (h0 : Heap) (n0 : Nat) (Z0 : n0 ≤ h0.size) (P_E_u0 : Exa Z h0 u0 "java/lang/String") (P_F_u0_String_value : Fld Z h0 u0 "java/lang/String" "value" "[B" .null) (P_F_u0_String_coder : Fld Z h0 u0 "java/lang/String" "coder" "B" (.int (0 : Int32))) (P_V_u1 : Arv Z h0 u1 kA .char (1 : Int32) [(.int c0)] (.int (0 : Int32))) (neA : u0 ≠ u1) (hc0 : ¬ c0 < 0 ∧ ¬ (127 : Int32) < c0) (P_S_String_COMPACT_STRINGS : Sta Z h0 "java/lang/String" "COMPACT_STRINGS" "Z" (.int zC)) (hz : ¬ (zC = (0 : Int32))) (g_u0 : n0 ≤ u0) :
    own_MF l own_y4 (Jvm.Cond.code own_y4 jdk_42_method_3_code 2 none) ws ({ frames := 3, cells := 1, slots := 1, locals := 52 } : Room) #[(.ref u0), (.ref u1)] Z h0 (Q_rmI1_1 Z u0 u1 kA c0 zC h0 n0) := by
  refine MetFree.of_bodySF (plainFor_of_name pn_2) hisR ?_
  intro p e s m args below meth c s₁ Bd hml0 hP hK
  obtain ⟨rfl, hZ, hh⟩ := hP
  have hx := Bd.exec
  have hby := Bd.bytes
  have hml : c.maxLocals = 2 := hml0
  have hown : s.vm.findClass "java/lang/String" = some m.cls := findClass_of_methodNamed Bd.named
  have hnm := (name_of_methodNamed Bd.named Bd.method).1
  have X0 : Stand p l e ({ frames := 3, cells := 1, slots := 1, locals := 52 } : Room) s m #[(.ref u0), (.ref u1)] below meth c s₁ [] 0 0 := Stand.of_body Bd
  have e0 : s₁.heap = h0 := by rw [← hh, Bd.state]; rfl
  have N0 := Fr.nil n0
  have pre0 : ∀ t, Steps p.tables e below (s₁.setTop (mkF m 0 #[rv u0, rv u1] [])) t → Steps p.tables e below (s₁.setTop (entryFrame m #[(.ref u0), (.ref u1)] 2)) t := fun t k => castTop (ef_rmI1_1 m u0 u1) k
  obtain ⟨cl1, Ar1, qq1, S1, N1_, H1, G1⟩ := id P_V_u1
  obtain ⟨_, _, ⟨T2, L2, k2, n2⟩, -, X2, ⟨Lc2, hQ2, l2, y2, z2⟩, st2⟩ := X0.specialBack hx (y := own_y3) rfl hown (mvT hZ (own_g hw 13 rfl)) (mvT hZ (own_g hw 14 rfl)) (mvT hZ (own_g hw 16 rfl)) (by decide) (backOf (W := 0) (rmI4_1 l Z a0 hw [] u0 u1 kA c0 zC h0 n0 Z0 P_E_u0 P_F_u0_String_value P_F_u0_String_coder P_V_u1 neA hc0 P_S_String_COMPACT_STRINGS hz g_u0) hZ (own_g hw 16 rfl) (own_g hw 8 rfl) (by decide) (by decide)) (g := (mkF m 6 #[rv u0, rv u1] [.null, (.int (1 : Int32)), (.int (0 : Int32)), (.ref u1), (.ref u0)])) rfl (by rw [hml]; rfl) (Steps.refl _) (a := u0) (argsL := [(.ref u1), (.int (0 : Int32)), (.int (1 : Int32)), .null]) (rest := []) (lenOf pd___CIILjava_lang_Void__V rfl) rfl (by show 2 * 0 + _ ≤ _; exact Nat.le_of_eq rfl) (hb hby d2_6) (fun _ _ => ⟨rfl, e0, (by decide : 0 + 1 ≤ _), (by decide : 0 + 1 ≤ _)⟩)
  dsimp only [Pt.U, Pt.locs, Pt.cells, Pt.slots] at X2 l2 y2 z2 st2 hQ2
  subst l2 y2 z2
  obtain ⟨t_2, kt_2, rfl, N2q, K2, sx2_0, f3, f4, f5, f6, f7⟩ := hQ2
  have ot_2 : n0 ≤ t_2 := Nat.le_trans Z0 sx2_0
  have zt_2 : h0.size ≤ t_2 := Nat.le_trans (Keep.refl h0 [u0]).1 sx2_0
  have ne8 : u0 ≠ t_2 := Nat.ne_of_lt (Nat.lt_of_lt_of_le P_E_u0.lt sx2_0)
  have ne9 : u1 ≠ t_2 := Nat.ne_of_lt (Nat.lt_of_lt_of_le P_V_u1.lt sx2_0)
  have KK2 : Keep h0 T2.heap [u0] := Keep.trans (Keep.refl h0 [u0]) K2 (allS (Or.inl (List.mem_of_getElem? (i := 0) rfl)) all0)
  have N2 := Fr.app N0 N2q
  obtain ⟨fs, hr, hrun, hended, hW, hsame⟩ := X2.leave (v := none) (fun _ => rfl)
  refine ⟨_, _, pre0 _ ?_, hrun, hended, _, _, rfl, ?_, ⟨_, rfl⟩, hW, hsame.mono (by decide) (by decide)⟩
  · refine XS.aloadN X0.here hx rfl (hb hby d2_0) rfl rfl ?_
    refine XS.aloadN X0.here hx rfl (hb hby d2_1) rfl rfl ?_
    refine XS.iconst X0.here hx rfl (hb hby d2_2) ?_
    refine XS.aloadN X0.here hx rfl (hb hby d2_3) rfl rfl ?_
    refine X0.arraylength hx (by rw [e0]; exact Ar1.1) (State.isArrayOf_alike hZ.alike Ar1.2.1) (g := (mkF m 4 #[rv u0, rv u1] [(.ref u1), (.int (0 : Int32)), (.ref u1), (.ref u0)])) rfl rfl (hb hby d2_4) _ ?_
    rw [len_of S1 N1_]
    refine XS.aconstNull X0.here hx rfl (hb hby d2_5) ?_
    show Steps _ _ _ (s₁.setTop (mkF m 6 #[rv u0, rv u1] [.null, (.int (1 : Int32)), (.int (0 : Int32)), (.ref u1), (.ref u0)])) _
    refine st2.trans ?_
    show Steps _ _ _ (T2.setTop (mkF m 9 #[rv u0, rv u1] [])) _
    exact X2.returnOut hx Bd.returns (hb hby d2_9) hr
  · show Q_rmI1_1 Z u0 u1 kA c0 zC h0 n0 _ T2.heap _
    exact ⟨t_2, kt_2, rfl, N2, KK2, zt_2, f3, f4, f5, f6, f7⟩

theorem ef_rmC5_2 (m : MethodId) (x0 : Addr) (x1 : Int32) (x2 : Addr) (x3 : Int32) (x4 : Int32) : entryFrame m #[(.ref x0), (.int x1), (.ref x2), (.int x3), (.int x4)] 7 = mkF m 0 #[rv x0, iv x1, rv x2, iv x3, iv x4, .unset, .unset] [] := by first | (simp [entryFrame, mkF, argsToLocals, Value.category]; done) | rfl
def Q_rmC5_2 (Z : State) (u0 : Addr) (u2 : Addr) (kA : ClassId) (c0 : Int32) (c1 : Int32) (kB : ClassId) (d0 : Int32) (d1 : Int32) (h0 : Heap) (n0 : Nat) (v : Option Value) (h : Heap) (L : List Loc) : Prop := (v = (some (.int (2 : Int32))) ∧ Fr n0 L ∧ Keep h0 h [u2] ∧ Arv Z h u2 kB .byte (2 : Int32) [(.int c0), (.int c1)] (.int (0 : Int32)))
set_option maxRecDepth 65536 in
set_option maxHeartbeats 40000000 in
theorem rmC5_2 (l : Launch) (Z : State) (a0 : Array Value) (hw : ∀ d ∈ tables_1, d.before a0 Z = true) (ws : List Jvm.Cond) (u0 : Addr) (u2 : Addr) (kA : ClassId) (c0 : Int32) (c1 : Int32) (kB : ClassId) (d0 : Int32) (d1 : Int32) (h0 : Heap) (n0 : Nat) (Z0 : n0 ≤ h0.size) (P_V_u0 : Arv Z h0 u0 kA .char (2 : Int32) [(.int c0), (.int c1)] (.int (0 : Int32))) (P_V_u2 : Arv Z h0 u2 kB .byte (2 : Int32) [(.int d0), (.int d1)] (.int (0 : Int32))) (neA : u0 ≠ u2) (hc0 : ¬ c0 < 0 ∧ ¬ (127 : Int32) < c0) (hc1 : ¬ c1 < 0 ∧ ¬ (127 : Int32) < c1) (g_u2 : n0 ≤ u2) :
    own_MF l own_y0 (Jvm.Cond.code own_y0 jdk_52_method_21_code 7 (some .int)) ws ({ frames := 0, cells := 0, slots := 0, locals := 0 } : Room) #[(.ref u0), (.int (0 : Int32)), (.ref u2), (.int (0 : Int32)), (.int (2 : Int32))] Z h0 (Q_rmC5_2 Z u0 u2 kA c0 c1 kB d0 d1 h0 n0) := by
  refine MetFree.of_bodySF (plainFor_of_name pn_23) hisR ?_
  intro p e s m args below meth c s₁ Bd hml0 hP hK
  obtain ⟨rfl, hZ, hh⟩ := hP
  have hx := Bd.exec
  have hby := Bd.bytes
  have hml : c.maxLocals = 7 := hml0
  have hown : s.vm.findClass "java/lang/StringUTF16" = some m.cls := findClass_of_methodNamed Bd.named
  have hnm := (name_of_methodNamed Bd.named Bd.method).1
  have X0 : Stand p l e ({ frames := 0, cells := 0, slots := 0, locals := 0 } : Room) s m #[(.ref u0), (.int (0 : Int32)), (.ref u2), (.int (0 : Int32)), (.int (2 : Int32))] below meth c s₁ [] 0 0 := Stand.of_body Bd
  have e0 : s₁.heap = h0 := by rw [← hh, Bd.state]; rfl
  have N0 := Fr.nil n0
  have pre0 : ∀ t, Steps p.tables e below (s₁.setTop (mkF m 0 #[rv u0, iv (0 : Int32), rv u2, iv (0 : Int32), iv (2 : Int32), .unset, .unset] [])) t → Steps p.tables e below (s₁.setTop (entryFrame m #[(.ref u0), (.int (0 : Int32)), (.ref u2), (.int (0 : Int32)), (.int (2 : Int32))] 7)) t := fun t k => castTop (ef_rmC5_2 m u0 (0 : Int32) u2 (0 : Int32) (2 : Int32)) k
  obtain ⟨cl1, Ar1, qq1, S1, N1_, H1, G1⟩ := id P_V_u0
  have hin1 : ¬ ((0 : Int32) < 0 ∨ cl1.slots.size ≤ ((0 : Int32)).toNatClampNeg) := inb_of S1 ⟨by decide, by decide⟩
  have hat1 : cl1.slots[((0 : Int32)).toNatClampNeg]? = some (.int c0) := H1.at hin1 rfl
  obtain ⟨cl2, Ar2, qq2, S2, N2_, H2, G2⟩ := id P_V_u2
  have hin2 : ¬ ((0 : Int32) < 0 ∨ cl2.slots.size ≤ ((0 : Int32)).toNatClampNeg) := inb_of S2 ⟨by decide, by decide⟩
  obtain ⟨T3, h3, X3, e3, W3, st3⟩ := stB X0 hx hZ e0 Ar2 (j := (0 : Int32)) hin2 (g := (mkF m 31 #[rv u0, iv (0 : Int32), rv u2, iv (0 : Int32), iv (2 : Int32), iv (0 : Int32), iv c0] [(.int c0), (.int (0 : Int32)), (.ref u2)])) rfl rfl (hb hby d23_31)
  have V3 : Arv Z h3 u2 kB .byte (2 : Int32) [(.int c0), (.int d1)] (.int (0 : Int32)) := by have q_ := Arv.set Ar2 qq2 S2 N2_ H2 G2 (fits_nar_byte _) W3 0 rfl (Nat.le_of_ble_eq_true rfl); rw [own_n1 hc0] at q_; exact q_
  have N4 := Fr.snoc X3 N0 g_u2
  have K5 : Keep h0 h3 [u2] := (Keep.refl h0 [u2]).wr W3 (Or.inl (List.mem_of_getElem? (i := 0) rfl))
  have f6 := (P_V_u0.other W3 neA)
  obtain ⟨cl7, Ar7, qq7, S7, N7_, H7, G7⟩ := id f6
  have hin7 : ¬ ((1 : Int32) < 0 ∨ cl7.slots.size ≤ ((1 : Int32)).toNatClampNeg) := inb_of S7 ⟨by decide, by decide⟩
  have hat7 : cl7.slots[((1 : Int32)).toNatClampNeg]? = some (.int c1) := H7.at hin7 rfl
  obtain ⟨cl8, Ar8, qq8, S8, N8_, H8, G8⟩ := id V3
  have hin8 : ¬ ((1 : Int32) < 0 ∨ cl8.slots.size ≤ ((1 : Int32)).toNatClampNeg) := inb_of S8 ⟨by decide, by decide⟩
  obtain ⟨T9, h9, X9, e9, W9, st9⟩ := stB X3 hx hZ e3 Ar8 (j := (1 : Int32)) hin8 (g := (mkF m 31 #[rv u0, iv (1 : Int32), rv u2, iv (1 : Int32), iv (2 : Int32), iv (1 : Int32), iv c1] [(.int c1), (.int (1 : Int32)), (.ref u2)])) rfl rfl (hb hby d23_31)
  have V9 : Arv Z h9 u2 kB .byte (2 : Int32) [(.int c0), (.int c1)] (.int (0 : Int32)) := by have q_ := Arv.set Ar8 qq8 S8 N8_ H8 G8 (fits_nar_byte _) W9 1 rfl (Nat.le_of_ble_eq_true rfl); rw [own_n1 hc1] at q_; exact q_
  have N10 := Fr.snoc X9 N4 g_u2
  have K11 : Keep h0 h9 [u2] := K5.wr W9 (Or.inl (List.mem_of_getElem? (i := 0) rfl))
  obtain ⟨fs, hr, hrun, hended, hW, hsame⟩ := X9.leave (v := some (.int (2 : Int32))) (fun h => by rw [Bd.returns] at h; cases h)
  refine ⟨_, _, pre0 _ ?_, hrun, hended, _, _, rfl, ?_, ⟨_, rfl⟩, hW, hsame.mono (by decide) (by decide)⟩
  · refine XS.iconst X0.here hx rfl (hb hby d23_0) ?_
    refine XS.istore X0.here hx rfl (hb hby d23_1) rfl (l' := #[rv u0, iv (0 : Int32), rv u2, iv (0 : Int32), iv (2 : Int32), iv (0 : Int32), .unset]) rfl ?_
    refine XS.iload X0.here hx rfl (hb hby d23_3) rfl ?_
    refine XS.iload X0.here hx rfl (hb hby d23_5) rfl ?_
    refine XS.icmpNo X0.here hx rfl (hb hby d23_7) rfl (tlt (by decide : (0 : Int32) < (2 : Int32))).2.1 ?_
    refine XS.aloadN X0.here hx rfl (hb hby d23_10) rfl rfl ?_
    refine XS.iloadN X0.here hx rfl (hb hby d23_11) rfl ?_
    refine X0.caload hx (j := (0 : Int32)) (v := (.int c0)) (by rw [e0]; exact Ar1.1) (State.isArrayOf_alike hZ.alike Ar1.2.1) Ar1.2.2 hin1 hat1 (g := (mkF m 12 #[rv u0, iv (0 : Int32), rv u2, iv (0 : Int32), iv (2 : Int32), iv (0 : Int32), .unset] [(.int (0 : Int32)), (.ref u0)])) rfl rfl (hb hby d23_12) _ ?_
    refine XS.istore X0.here hx rfl (hb hby d23_13) rfl (l' := #[rv u0, iv (0 : Int32), rv u2, iv (0 : Int32), iv (2 : Int32), iv (0 : Int32), iv c0]) rfl ?_
    refine XS.iload X0.here hx rfl (hb hby d23_15) rfl ?_
    refine XS.sipush X0.here hx rfl (hb hby d23_17) ?_
    refine XS.icmpYes X0.here hx rfl (pc0 := 20) (pc' := 26) rfl (hb hby d23_20) rfl (flt (own_le hc0)).2.2.2 (by decide) (by decide) ?_
    refine XS.aloadN X0.here hx rfl (hb hby d23_26) rfl rfl ?_
    refine XS.iloadN X0.here hx rfl (hb hby d23_27) rfl ?_
    refine XS.iload X0.here hx rfl (hb hby d23_28) rfl ?_
    refine XS.i2b X0.here hx rfl (hb hby d23_30) rfl ?_
    show Steps _ _ _ (s₁.setTop (mkF m 31 #[rv u0, iv (0 : Int32), rv u2, iv (0 : Int32), iv (2 : Int32), iv (0 : Int32), iv c0] [(.int (c0.toInt8.toInt32)), (.int (0 : Int32)), (.ref u2)])) _
    rw [own_n1 hc0]
    refine st3 _ ?_
    refine XS.iinc X3.here hx rfl (hb hby d23_32) rfl (l' := #[rv u0, iv (1 : Int32), rv u2, iv (0 : Int32), iv (2 : Int32), iv (0 : Int32), iv c0]) rfl ?_
    refine XS.iinc X3.here hx rfl (hb hby d23_35) rfl (l' := #[rv u0, iv (1 : Int32), rv u2, iv (1 : Int32), iv (2 : Int32), iv (0 : Int32), iv c0]) rfl ?_
    refine XS.iinc X3.here hx rfl (hb hby d23_38) rfl (l' := #[rv u0, iv (1 : Int32), rv u2, iv (1 : Int32), iv (2 : Int32), iv (1 : Int32), iv c0]) rfl ?_
    refine XS.goto X3.here hx rfl (pc0 := 41) (pc' := 3) rfl (hb hby d23_41) (by decide) (by decide) ?_
    refine XS.iload X3.here hx rfl (hb hby d23_3) rfl ?_
    refine XS.iload X3.here hx rfl (hb hby d23_5) rfl ?_
    show Steps _ _ _ (T3.setTop (mkF m 7 #[rv u0, iv (1 : Int32), rv u2, iv (1 : Int32), iv (2 : Int32), iv (1 : Int32), iv c0] [(.int (2 : Int32)), (.int (1 : Int32))])) _
    refine XS.icmpNo X3.here hx rfl (hb hby d23_7) rfl (tlt (by decide : (1 : Int32) < (2 : Int32))).2.1 ?_
    refine XS.aloadN X3.here hx rfl (hb hby d23_10) rfl rfl ?_
    refine XS.iloadN X3.here hx rfl (hb hby d23_11) rfl ?_
    refine X3.caload hx (j := (1 : Int32)) (v := (.int c1)) (by rw [e3]; exact Ar7.1) (State.isArrayOf_alike hZ.alike Ar7.2.1) Ar7.2.2 hin7 hat7 (g := (mkF m 12 #[rv u0, iv (1 : Int32), rv u2, iv (1 : Int32), iv (2 : Int32), iv (1 : Int32), iv c0] [(.int (1 : Int32)), (.ref u0)])) rfl rfl (hb hby d23_12) _ ?_
    refine XS.istore X3.here hx rfl (hb hby d23_13) rfl (l' := #[rv u0, iv (1 : Int32), rv u2, iv (1 : Int32), iv (2 : Int32), iv (1 : Int32), iv c1]) rfl ?_
    refine XS.iload X3.here hx rfl (hb hby d23_15) rfl ?_
    refine XS.sipush X3.here hx rfl (hb hby d23_17) ?_
    refine XS.icmpYes X3.here hx rfl (pc0 := 20) (pc' := 26) rfl (hb hby d23_20) rfl (flt (own_le hc1)).2.2.2 (by decide) (by decide) ?_
    refine XS.aloadN X3.here hx rfl (hb hby d23_26) rfl rfl ?_
    refine XS.iloadN X3.here hx rfl (hb hby d23_27) rfl ?_
    refine XS.iload X3.here hx rfl (hb hby d23_28) rfl ?_
    refine XS.i2b X3.here hx rfl (hb hby d23_30) rfl ?_
    show Steps _ _ _ (T3.setTop (mkF m 31 #[rv u0, iv (1 : Int32), rv u2, iv (1 : Int32), iv (2 : Int32), iv (1 : Int32), iv c1] [(.int (c1.toInt8.toInt32)), (.int (1 : Int32)), (.ref u2)])) _
    rw [own_n1 hc1]
    refine st9 _ ?_
    refine XS.iinc X9.here hx rfl (hb hby d23_32) rfl (l' := #[rv u0, iv (2 : Int32), rv u2, iv (1 : Int32), iv (2 : Int32), iv (1 : Int32), iv c1]) rfl ?_
    refine XS.iinc X9.here hx rfl (hb hby d23_35) rfl (l' := #[rv u0, iv (2 : Int32), rv u2, iv (2 : Int32), iv (2 : Int32), iv (1 : Int32), iv c1]) rfl ?_
    refine XS.iinc X9.here hx rfl (hb hby d23_38) rfl (l' := #[rv u0, iv (2 : Int32), rv u2, iv (2 : Int32), iv (2 : Int32), iv (2 : Int32), iv c1]) rfl ?_
    refine XS.goto X9.here hx rfl (pc0 := 41) (pc' := 3) rfl (hb hby d23_41) (by decide) (by decide) ?_
    refine XS.iload X9.here hx rfl (hb hby d23_3) rfl ?_
    refine XS.iload X9.here hx rfl (hb hby d23_5) rfl ?_
    refine XS.icmpYes X9.here hx rfl (pc0 := 7) (pc' := 44) rfl (hb hby d23_7) rfl (flt (by decide : ¬ ((2 : Int32) < (2 : Int32)))).2.1 (by decide) (by decide) ?_
    refine XS.iload X9.here hx rfl (hb hby d23_44) rfl ?_
    show Steps _ _ _ (T9.setTop (mkF m 46 #[rv u0, iv (2 : Int32), rv u2, iv (2 : Int32), iv (2 : Int32), iv (2 : Int32), iv c1] [(.int (2 : Int32))])) _
    exact retI X9 hx Bd.returns (hb hby d23_46) hr
  · show Q_rmC5_2 Z u0 u2 kA c0 c1 kB d0 d1 h0 n0 _ T9.heap _
    rw [e9]
    exact ⟨rfl, N10, K11, V9⟩

theorem ef_rmC3_2 (m : MethodId) (x0 : Addr) (x1 : Int32) (x2 : Int32) : entryFrame m #[(.ref x0), (.int x1), (.int x2)] 6 = mkF m 0 #[rv x0, iv x1, iv x2, .unset, .unset, .unset] [] := by first | (simp [entryFrame, mkF, argsToLocals, Value.category]; done) | rfl
def Q_rmC3_2 (Z : State) (u0 : Addr) (kA : ClassId) (c0 : Int32) (c1 : Int32) (h0 : Heap) (n0 : Nat) (v : Option Value) (h : Heap) (L : List Loc) : Prop := ∃ (t : Addr), ∃ (kt : ClassId), (v = (some (.ref t)) ∧ Fr n0 L ∧ Keep h0 h [] ∧ h0.size ≤ t ∧ Exa Z h t "[B" ∧ Arv Z h t kt .byte (2 : Int32) [(.int c0), (.int c1)] (.int (0 : Int32)))
set_option maxRecDepth 65536 in
set_option maxHeartbeats 40000000 in
theorem rmC3_2 (l : Launch) (Z : State) (a0 : Array Value) (hw : ∀ d ∈ tables_1, d.before a0 Z = true) (ws : List Jvm.Cond) (u0 : Addr) (kA : ClassId) (c0 : Int32) (c1 : Int32) (h0 : Heap) (n0 : Nat) (Z0 : n0 ≤ h0.size) (P_V_u0 : Arv Z h0 u0 kA .char (2 : Int32) [(.int c0), (.int c1)] (.int (0 : Int32))) (hc0 : ¬ c0 < 0 ∧ ¬ (127 : Int32) < c0) (hc1 : ¬ c1 < 0 ∧ ¬ (127 : Int32) < c1) :
    own_MF l own_y1 (Jvm.Cond.code own_y1 jdk_52_method_16_code 6 (some (.array .byte))) ws ({ frames := 1, cells := 1, slots := 2, locals := 18 } : Room) #[(.ref u0), (.int (0 : Int32)), (.int (2 : Int32))] Z h0 (Q_rmC3_2 Z u0 kA c0 c1 h0 n0) := by
  refine MetFree.of_bodySF (plainFor_of_name pn_22) hisR ?_
  intro p e s m args below meth c s₁ Bd hml0 hP hK
  obtain ⟨rfl, hZ, hh⟩ := hP
  have hx := Bd.exec
  have hby := Bd.bytes
  have hml : c.maxLocals = 6 := hml0
  have hown : s.vm.findClass "java/lang/StringUTF16" = some m.cls := findClass_of_methodNamed Bd.named
  have hnm := (name_of_methodNamed Bd.named Bd.method).1
  have X0 : Stand p l e ({ frames := 1, cells := 1, slots := 2, locals := 18 } : Room) s m #[(.ref u0), (.int (0 : Int32)), (.int (2 : Int32))] below meth c s₁ [] 0 0 := Stand.of_body Bd
  have e0 : s₁.heap = h0 := by rw [← hh, Bd.state]; rfl
  have N0 := Fr.nil n0
  have pre0 : ∀ t, Steps p.tables e below (s₁.setTop (mkF m 0 #[rv u0, iv (0 : Int32), iv (2 : Int32), .unset, .unset, .unset] [])) t → Steps p.tables e below (s₁.setTop (entryFrame m #[(.ref u0), (.int (0 : Int32)), (.int (2 : Int32))] 6)) t := fun t k => castTop (ef_rmC3_2 m u0 (0 : Int32) (2 : Int32)) k
  obtain ⟨T1, h1, k1, X1, e1, E1, A1, Q1, st1⟩ := newPE X0 hx hZ (own_g hw 21 rfl) e0 (g := (mkF m 1 #[rv u0, iv (0 : Int32), iv (2 : Int32), .unset, .unset, .unset] [(.int (2 : Int32))])) rfl (hb hby d22_1) rfl (by decide) (cap := 2) (by decide) (by decide) (by decide) (by decide) (ad := "[B") rfl
  obtain ⟨b1, g1⟩ : ∃ z, z = h0.size := ⟨_, rfl⟩
  rw [← g1] at A1 st1 Q1
  have ne2 : u0 ≠ b1 := Nat.ne_of_lt (Nat.lt_of_lt_of_le P_V_u0.lt (Nat.le_of_eq g1.symm))
  have o1 : n0 ≤ b1 := Nat.le_trans Z0 (Nat.le_of_eq g1.symm)
  have z1 : h0.size ≤ b1 := Nat.le_trans (Keep.refl h0 []).1 (Nat.le_of_eq g1.symm)
  have K1 : Keep h0 h1 [] := (Keep.refl h0 []).ext E1
  have V1 : Arv Z h1 b1 k1 .byte (2 : Int32) [(.int (0 : Int32)), (.int (0 : Int32))] (.int (0 : Int32)) := (Arv.new A1 (by decide)).pad (pad_rep [] (.int (0 : Int32)) 2)
  have f3 := (P_V_u0.ext E1)
  have f4 := (Nat.le_trans Z0 E1.1)
  obtain ⟨_, _, ⟨T5, L5, k5, n5⟩, -, X5, ⟨Lc5, hQ5, l5, y5, z5⟩, st5⟩ := Jvm.LawKit.callS X1 hx (y := own_y0) hown (mvT hZ (own_g hw 144 rfl)) (mvT hZ (own_g hw 145 rfl)) (mvT hZ (own_g hw 142 rfl)) (mvT hZ (own_g hw 146 rfl)) (by decide) (backOf (W := 0) (rmC5_2 l Z a0 hw [] u0 b1 kA c0 c1 k1 (0 : Int32) (0 : Int32) h1 n0 f4 f3 V1 ne2 hc0 hc1 o1) hZ (own_g hw 146 rfl) (own_g hw 142 rfl) (by decide) (by decide)) (g := (mkF m 9 #[rv u0, iv (0 : Int32), iv (2 : Int32), rv b1, .unset, .unset] [(.int (2 : Int32)), (.int (0 : Int32)), (.ref b1), (.int (0 : Int32)), (.ref u0)])) rfl (by rw [hml]; rfl) (argsL := [(.ref u0), (.int (0 : Int32)), (.ref b1), (.int (0 : Int32)), (.int (2 : Int32))]) (rest := []) (lenOf pd___CI_BII_I rfl) rfl (by show 2 * 0 + _ ≤ _; exact Nat.le_of_eq rfl) (hb hby d22_9) (fun _ _ => ⟨rfl, e1, (by decide : 1 + 0 ≤ _), (by decide : 2 + 0 ≤ _)⟩)
  dsimp only [Pt.U, Pt.locs, Pt.cells, Pt.slots] at X5 l5 y5 z5 st5 hQ5
  subst l5 y5 z5
  obtain ⟨rfl, N5q, K5, f6⟩ := hQ5
  have KK5 : Keep h0 T5.heap [] := Keep.trans K1 K5 (allS (Or.inr z1) all0)
  have N5 := Fr.app N0 N5q
  obtain ⟨fs, hr, hrun, hended, hW, hsame⟩ := X5.leave (v := some (.ref b1)) (fun h => by rw [Bd.returns] at h; cases h)
  have f7 := (Q1.keep K5)
  refine ⟨_, _, pre0 _ ?_, hrun, hended, _, _, rfl, ?_, ⟨_, rfl⟩, hW, hsame.mono (by decide) (by decide)⟩
  · refine XS.iloadN X0.here hx rfl (hb hby d22_0) rfl ?_
    refine st1 _ ?_
    refine XS.astoreN X1.here hx rfl (hb hby d22_3) rfl rfl (l' := #[rv u0, iv (0 : Int32), iv (2 : Int32), rv b1, .unset, .unset]) rfl ?_
    refine XS.aloadN X1.here hx rfl (hb hby d22_4) rfl rfl ?_
    refine XS.iloadN X1.here hx rfl (hb hby d22_5) rfl ?_
    refine XS.aloadN X1.here hx rfl (hb hby d22_6) rfl rfl ?_
    refine XS.iconst X1.here hx rfl (hb hby d22_7) ?_
    refine XS.iloadN X1.here hx rfl (hb hby d22_8) rfl ?_
    show Steps _ _ _ (T1.setTop (mkF m 9 #[rv u0, iv (0 : Int32), iv (2 : Int32), rv b1, .unset, .unset] [(.int (2 : Int32)), (.int (0 : Int32)), (.ref b1), (.int (0 : Int32)), (.ref u0)])) _
    refine st5 _ ?_
    refine XS.istore X5.here hx rfl (hb hby d22_12) rfl (l' := #[rv u0, iv (0 : Int32), iv (2 : Int32), rv b1, iv (2 : Int32), .unset]) rfl ?_
    refine XS.iload X5.here hx rfl (hb hby d22_14) rfl ?_
    refine XS.iloadN X5.here hx rfl (hb hby d22_16) rfl ?_
    refine XS.icmpYes X5.here hx rfl (pc0 := 17) (pc' := 57) rfl (hb hby d22_17) rfl (teq (by decide : (2 : Int32) = (2 : Int32))).1 (by decide) (by decide) ?_
    refine XS.aloadN X5.here hx rfl (hb hby d22_57) rfl rfl ?_
    show Steps _ _ _ (T5.setTop (mkF m 58 #[rv u0, iv (0 : Int32), iv (2 : Int32), rv b1, iv (2 : Int32), .unset] [(.ref b1)])) _
    exact retOut X5 hx Bd.returns rfl (Or.inr (Or.inr (Or.inr (Or.inr ⟨rfl, rfl, rfl⟩)))) (hb hby d22_58) hr
  · show Q_rmC3_2 Z u0 kA c0 c1 h0 n0 _ T5.heap _
    exact ⟨b1, k1, rfl, N5, KK5, z1, f7, f6⟩

theorem ef_rmCF2 (m : MethodId) (x0 : Addr) (x1 : Int32) : entryFrame m #[(.ref x0), (.int x1)] 2 = mkF m 0 #[rv x0, iv x1] [] := by first | (simp [entryFrame, mkF, argsToLocals, Value.category]; done) | rfl
set_option maxRecDepth 65536 in
set_option maxHeartbeats 40000000 in
theorem rmCF2 (l : Launch) (Z : State) (a0 : Array Value) (hw : ∀ d ∈ tables_1, d.before a0 Z = true) (ws : List Jvm.Cond) (u0 : Addr) (kt : ClassId) (vs : List Value) (h0 : Heap) (n0 : Nat) (Z0 : n0 ≤ h0.size) (P_G_u0 : Arv Z h0 u0 kt .byte (2 : Int32) vs (.int 0)) :
    own_MF l own_y2 (Jvm.Cond.code own_y2 jdk_52_method_15_code 2 (some .byte)) ws ({ frames := 0, cells := 0, slots := 0, locals := 0 } : Room) #[(.ref u0), (.int (2 : Int32))] Z h0 (own_QP (some (.int (0 : Int32))) h0 n0) := by
  refine MetFree.of_bodySF (plainFor_of_name pn_24) hisR ?_
  intro p e s m args below meth c s₁ Bd hml0 hP hK
  obtain ⟨rfl, hZ, hh⟩ := hP
  have hx := Bd.exec
  have hby := Bd.bytes
  have hml : c.maxLocals = 2 := hml0
  have hown : s.vm.findClass "java/lang/StringUTF16" = some m.cls := findClass_of_methodNamed Bd.named
  have hnm := (name_of_methodNamed Bd.named Bd.method).1
  have X0 : Stand p l e ({ frames := 0, cells := 0, slots := 0, locals := 0 } : Room) s m #[(.ref u0), (.int (2 : Int32))] below meth c s₁ [] 0 0 := Stand.of_body Bd
  have e0 : s₁.heap = h0 := by rw [← hh, Bd.state]; rfl
  have N0 := Fr.nil n0
  have pre0 : ∀ t, Steps p.tables e below (s₁.setTop (mkF m 0 #[rv u0, iv (2 : Int32)] [])) t → Steps p.tables e below (s₁.setTop (entryFrame m #[(.ref u0), (.int (2 : Int32))] 2)) t := fun t k => castTop (ef_rmCF2 m u0 (2 : Int32)) k
  obtain ⟨cl1, Ar1, qq1, S1, N1_, H1, G1⟩ := id P_G_u0
  obtain ⟨fs, hr, hrun, hended, hW, hsame⟩ := X0.leave (v := some (.int (0 : Int32))) (fun h => by rw [Bd.returns] at h; cases h)
  refine ⟨_, _, pre0 _ ?_, hrun, hended, _, _, rfl, ?_, ⟨_, rfl⟩, hW, hsame.mono (by decide) (by decide)⟩
  · refine XS.iloadN X0.here hx rfl (hb hby d24_0) rfl ?_
    refine XS.aloadN X0.here hx rfl (hb hby d24_1) rfl rfl ?_
    refine X0.arraylength hx (by rw [e0]; exact Ar1.1) (State.isArrayOf_alike hZ.alike Ar1.2.1) (g := (mkF m 2 #[rv u0, iv (2 : Int32)] [(.ref u0), (.int (2 : Int32))])) rfl rfl (hb hby d24_2) _ ?_
    rw [len_of S1 N1_]
    refine XS.isub X0.here hx rfl (hb hby d24_3) rfl ?_
    refine XS.bipush X0.here hx rfl (hb hby d24_4) ?_
    refine XS.iushr X0.here hx rfl (hb hby d24_6) rfl ?_
    show Steps _ _ _ (s₁.setTop (mkF m 7 #[rv u0, iv (2 : Int32)] [(.int (((0 : Int32).toUInt32 >>> ((31 : Int32) &&& 31).toUInt32).toInt32))])) _
    rw [(by decide : (((0 : Int32).toUInt32 >>> ((31 : Int32) &&& 31).toUInt32).toInt32) = (0 : Int32))]
    refine XS.i2b X0.here hx rfl (hb hby d24_7) rfl ?_
    show Steps _ _ _ (s₁.setTop (mkF m 8 #[rv u0, iv (2 : Int32)] [(.int ((0 : Int32).toInt8.toInt32))])) _
    rw [(by decide : ((0 : Int32).toInt8.toInt32) = (0 : Int32))]
    show Steps _ _ _ (s₁.setTop (mkF m 8 #[rv u0, iv (2 : Int32)] [(.int (0 : Int32))])) _
    exact retN X0 hx (t := .byte) Bd.returns (by simp) (hb hby d24_8) hr
  · show own_QP (some (.int (0 : Int32))) h0 n0 _ s₁.heap _
    rw [e0]
    exact ⟨rfl, N0, rfl⟩

theorem ef_rmI4_2 (m : MethodId) (x0 : Addr) (x1 : Addr) (x2 : Int32) (x3 : Int32) : entryFrame m #[(.ref x0), (.ref x1), (.int x2), (.int x3), .null] 6 = mkF m 0 #[rv x0, rv x1, iv x2, iv x3, .val .null, .unset] [] := by first | (simp [entryFrame, mkF, argsToLocals, Value.category]; done) | rfl
def Q_rmI4_2 (Z : State) (u0 : Addr) (u1 : Addr) (kA : ClassId) (c0 : Int32) (c1 : Int32) (zC : Int32) (h0 : Heap) (n0 : Nat) (v : Option Value) (h : Heap) (L : List Loc) : Prop := ∃ (t : Addr), ∃ (kt : ClassId), (v = none ∧ Fr n0 L ∧ Keep h0 h [u0] ∧ h0.size ≤ t ∧ Exa Z h u0 "java/lang/String" ∧ Fld Z h u0 "java/lang/String" "value" "[B" (.ref t) ∧ Fld Z h u0 "java/lang/String" "coder" "B" (.int (0 : Int32)) ∧ Exa Z h t "[B" ∧ Arv Z h t kt .byte (2 : Int32) [(.int c0), (.int c1)] (.int (0 : Int32)))
set_option maxRecDepth 65536 in
set_option maxHeartbeats 40000000 in
theorem rmI4_2 (l : Launch) (Z : State) (a0 : Array Value) (hw : ∀ d ∈ tables_1, d.before a0 Z = true) (ws : List Jvm.Cond) (u0 : Addr) (u1 : Addr) (kA : ClassId) (c0 : Int32) (c1 : Int32) (zC : Int32) (h0 : Heap) (n0 : Nat) (Z0 : n0 ≤ h0.size) (P_E_u0 : Exa Z h0 u0 "java/lang/String") (P_F_u0_String_value : Fld Z h0 u0 "java/lang/String" "value" "[B" .null) (P_F_u0_String_coder : Fld Z h0 u0 "java/lang/String" "coder" "B" (.int (0 : Int32))) (P_V_u1 : Arv Z h0 u1 kA .char (2 : Int32) [(.int c0), (.int c1)] (.int (0 : Int32))) (neA : u0 ≠ u1) (hc0 : ¬ c0 < 0 ∧ ¬ (127 : Int32) < c0) (hc1 : ¬ c1 < 0 ∧ ¬ (127 : Int32) < c1) (P_S_String_COMPACT_STRINGS : Sta Z h0 "java/lang/String" "COMPACT_STRINGS" "Z" (.int zC)) (hz : ¬ (zC = (0 : Int32))) (g_u0 : n0 ≤ u0) :
    own_MF l own_y3 (Jvm.Cond.code own_y3 jdk_42_method_149_code 6 none) ws ({ frames := 2, cells := 1, slots := 2, locals := 35 } : Room) #[(.ref u0), (.ref u1), (.int (0 : Int32)), (.int (2 : Int32)), .null] Z h0 (Q_rmI4_2 Z u0 u1 kA c0 c1 zC h0 n0) := by
  refine MetFree.of_bodySF (plainFor_of_name pn_3) hisR ?_
  intro p e s m args below meth c s₁ Bd hml0 hP hK
  obtain ⟨rfl, hZ, hh⟩ := hP
  have hx := Bd.exec
  have hby := Bd.bytes
  have hml : c.maxLocals = 6 := hml0
  have hown : s.vm.findClass "java/lang/String" = some m.cls := findClass_of_methodNamed Bd.named
  have hnm := (name_of_methodNamed Bd.named Bd.method).1
  have X0 : Stand p l e ({ frames := 2, cells := 1, slots := 2, locals := 35 } : Room) s m #[(.ref u0), (.ref u1), (.int (0 : Int32)), (.int (2 : Int32)), .null] below meth c s₁ [] 0 0 := Stand.of_body Bd
  have e0 : s₁.heap = h0 := by rw [← hh, Bd.state]; rfl
  have N0 := Fr.nil n0
  have pre0 : ∀ t, Steps p.tables e below (s₁.setTop (mkF m 0 #[rv u0, rv u1, iv (0 : Int32), iv (2 : Int32), .val .null, .unset] [])) t → Steps p.tables e below (s₁.setTop (entryFrame m #[(.ref u0), (.ref u1), (.int (0 : Int32)), (.int (2 : Int32)), .null] 6)) t := fun t k => castTop (ef_rmI4_2 m u0 u1 (0 : Int32) (2 : Int32)) k
  obtain ⟨T1, X1, e1, st1⟩ := initO X0 hx hZ hown (own_g hw 17 rfl) (own_g hw 18 rfl) (own_g hw 19 rfl) e0 (g := (mkF m 1 #[rv u0, rv u1, iv (0 : Int32), iv (2 : Int32), .val .null, .unset] [(.ref u0)])) rfl (by rw [hml]; rfl) rfl (hb hby d3_1) (by decide) (W := 0) (by show 2 * 0 + _ ≤ _; exact Nat.le_of_eq rfl) (by decide)
  obtain ⟨T2, X2, e2, st2⟩ := getS2 X1 hx hZ hown (host := "") (Or.inl (own_g hw 49 rfl)) Via.refl e1 P_S_String_COMPACT_STRINGS (g := (mkF m 27 #[rv u0, rv u1, iv (0 : Int32), iv (2 : Int32), .val .null, .unset] [])) rfl (hb hby d3_27)
  obtain ⟨_, _, ⟨T3, L3, k3, n3⟩, -, X3, ⟨Lc3, hQ3, l3, y3, z3⟩, st3⟩ := Jvm.LawKit.callS X2 hx (y := own_y1) hown (mvT hZ (own_g hw 140 rfl)) (mvT hZ (own_g hw 141 rfl)) (mvT hZ (own_g hw 142 rfl)) (mvT hZ (own_g hw 143 rfl)) (by decide) (backOf (W := 0) (rmC3_2 l Z a0 hw [] u1 kA c0 c1 h0 n0 Z0 P_V_u1 hc0 hc1) hZ (own_g hw 143 rfl) (own_g hw 142 rfl) (by decide) (by decide)) (g := (mkF m 36 #[rv u0, rv u1, iv (0 : Int32), iv (2 : Int32), .val .null, .unset] [(.int (2 : Int32)), (.int (0 : Int32)), (.ref u1)])) rfl (by rw [hml]; rfl) (argsL := [(.ref u1), (.int (0 : Int32)), (.int (2 : Int32))]) (rest := []) (lenOf pd___CII__B rfl) rfl (by show 2 * 0 + _ ≤ _; exact Nat.le_of_eq rfl) (hb hby d3_36) (fun _ _ => ⟨rfl, e2, (by decide : 0 + 1 ≤ _), (by decide : 0 + 2 ≤ _)⟩)
  dsimp only [Pt.U, Pt.locs, Pt.cells, Pt.slots] at X3 l3 y3 z3 st3 hQ3
  subst l3 y3 z3
  obtain ⟨t_3, kt_3, rfl, N3q, K3, sx3_0, f4, f5⟩ := hQ3
  have ot_3 : n0 ≤ t_3 := Nat.le_trans Z0 sx3_0
  have zt_3 : h0.size ≤ t_3 := Nat.le_trans (Keep.refl h0 [u0]).1 sx3_0
  have ne6 : u0 ≠ t_3 := Nat.ne_of_lt (Nat.lt_of_lt_of_le P_E_u0.lt sx3_0)
  have ne7 : u1 ≠ t_3 := Nat.ne_of_lt (Nat.lt_of_lt_of_le P_V_u1.lt sx3_0)
  have KK3 : Keep h0 T3.heap [u0] := Keep.trans (Keep.refl h0 [u0]) K3 all0
  have N3 := Fr.app N0 N3q
  have f8 := (Nat.le_trans Z0 K3.1)
  obtain ⟨_, _, ⟨T9, L9, k9, n9⟩, -, X9, ⟨Lc9, hQ9, l9, y9, z9⟩, st9⟩ := Jvm.LawKit.callS X3 hx (y := own_y2) hown (mvT hZ (own_g hw 147 rfl)) (mvT hZ (own_g hw 148 rfl)) (mvT hZ (own_g hw 142 rfl)) (mvT hZ (own_g hw 149 rfl)) (by decide) (backOf (W := 1) (rmCF2 l Z a0 hw [] t_3 kt_3 [(.int c0), (.int c1)] T3.heap n0 f8 f5) hZ (own_g hw 149 rfl) (own_g hw 142 rfl) (by decide) (by decide)) (g := (mkF m 45 #[rv u0, rv u1, iv (0 : Int32), iv (2 : Int32), .val .null, rv t_3] [(.int (2 : Int32)), (.ref t_3), (.ref u0)])) rfl (by rw [hml]; rfl) (argsL := [(.ref t_3), (.int (2 : Int32))]) (rest := [(.ref u0)]) (lenOf pd___BI_B rfl) rfl (by show 2 * 0 + _ ≤ _; exact Nat.le_of_eq rfl) (hb hby d3_45) (fun _ _ => ⟨rfl, rfl, (by decide : 1 + 0 ≤ _), (by decide : 2 + 0 ≤ _)⟩)
  dsimp only [Pt.U, Pt.locs, Pt.cells, Pt.slots] at X9 l9 y9 z9 st9 hQ9
  subst l9 y9 z9
  obtain ⟨rfl, N9q, e9⟩ := hQ9
  have N9 := Fr.app N3 N9q
  have f10 := (P_E_u0.keep K3)
  have f11 := (P_F_u0_String_coder.keep K3 nin0)
  obtain ⟨T12, h12, X12, e12, W12, st12⟩ := putFN X9 hx hZ hown (own_g hw 27 rfl) Via.refl e9 f11 f10 (Or.inr ⟨(own_g hw 23 rfl), rfl, hnm⟩) (own_g hw 7 rfl) (ty := .byte) (v' := (.int (0 : Int32))) (by decide) rfl rfl (g := (mkF m 48 #[rv u0, rv u1, iv (0 : Int32), iv (2 : Int32), .val .null, rv t_3] [(.int (0 : Int32)), (.ref u0)])) rfl rfl (hb hby d3_48)
  have f12_ : Fld Z h12 u0 "java/lang/String" "coder" "B" (.int (0 : Int32)) := f11.same W12
  have N13 := Fr.snoc X12 N9 g_u0
  have K14 : Keep h0 h12 [u0] := KK3.wr W12 (Or.inl (List.mem_of_getElem? (i := 0) rfl))
  have f15 := (f10.wr W12)
  have f16 := ((P_F_u0_String_value.keep K3 nin0).other W12 (Or.inr (slot_ne (Or.inr (own_g hw 22 rfl)) (Or.inr (own_g hw 23 rfl)) (by decide) (t := (.array .byte)) (t' := .byte) (by decide) (by decide))))
  obtain ⟨T17, h17, X17, e17, W17, st17⟩ := putF X12 hx hZ hown (host := "") (Or.inl (own_g hw 26 rfl)) Via.refl e12 f16 f15 (Or.inr ⟨(own_g hw 22 rfl), rfl, hnm⟩) (own_g hw 7 rfl) (ty := (.array .byte)) (by decide) rfl rfl (g := (mkF m 54 #[rv u0, rv u1, iv (0 : Int32), iv (2 : Int32), .val .null, rv t_3] [(.ref t_3), (.ref u0)])) rfl rfl (hb hby d3_54)
  have f17_ : Fld Z h17 u0 "java/lang/String" "value" "[B" (.ref t_3) := f16.same W17
  have N18 := Fr.snoc X17 N13 g_u0
  have K19 : Keep h0 h17 [u0] := K14.wr W17 (Or.inl (List.mem_of_getElem? (i := 0) rfl))
  obtain ⟨fs, hr, hrun, hended, hW, hsame⟩ := X17.leave (v := none) (fun _ => rfl)
  have f20 := (f15.wr W17)
  have f21 := (f12_.other W17 (Or.inr (slot_ne (Or.inr (own_g hw 23 rfl)) (Or.inr (own_g hw 22 rfl)) (by decide) (t := .byte) (t' := (.array .byte)) (by decide) (by decide))))
  have f22 := ((f4.wr W12).wr W17)
  have f23 := ((f5.other W12 (Ne.symm ne6)).other W17 (Ne.symm ne6))
  refine ⟨_, _, pre0 _ ?_, hrun, hended, _, _, rfl, ?_, ⟨_, rfl⟩, hW, hsame.mono (by decide) (by decide)⟩
  · refine XS.aloadN X0.here hx rfl (hb hby d3_0) rfl rfl ?_
    show Steps _ _ _ (s₁.setTop (mkF m 1 #[rv u0, rv u1, iv (0 : Int32), iv (2 : Int32), .val .null, .unset] [(.ref u0)])) _
    refine st1 _ ?_
    refine XS.iloadN X1.here hx rfl (hb hby d3_4) rfl ?_
    refine XS.ifYes X1.here hx rfl (pc0 := 5) (pc' := 27) rfl (hb hby d3_5) rfl ((if0 _ _).trans (feq (by decide : ¬ ((2 : Int32) = (0 : Int32)))).2) (by decide) (by decide) ?_
    refine st2 _ ?_
    refine XS.ifNo X2.here hx rfl (hb hby d3_30) rfl ((if0 _ _).trans (feq hz).1) ?_
    refine XS.aloadN X2.here hx rfl (hb hby d3_33) rfl rfl ?_
    refine XS.iloadN X2.here hx rfl (hb hby d3_34) rfl ?_
    refine XS.iloadN X2.here hx rfl (hb hby d3_35) rfl ?_
    show Steps _ _ _ (T2.setTop (mkF m 36 #[rv u0, rv u1, iv (0 : Int32), iv (2 : Int32), .val .null, .unset] [(.int (2 : Int32)), (.int (0 : Int32)), (.ref u1)])) _
    refine st3 _ ?_
    refine XS.astore X3.here hx rfl (hb hby d3_39) rfl rfl (l' := #[rv u0, rv u1, iv (0 : Int32), iv (2 : Int32), .val .null, rv t_3]) rfl ?_
    refine XS.aloadN X3.here hx rfl (hb hby d3_41) rfl rfl ?_
    refine XS.aload X3.here hx rfl (hb hby d3_42) rfl rfl ?_
    refine XS.iloadN X3.here hx rfl (hb hby d3_44) rfl ?_
    show Steps _ _ _ (T3.setTop (mkF m 45 #[rv u0, rv u1, iv (0 : Int32), iv (2 : Int32), .val .null, rv t_3] [(.int (2 : Int32)), (.ref t_3), (.ref u0)])) _
    refine st9 _ ?_
    refine st12 _ ?_
    refine XS.aloadN X12.here hx rfl (hb hby d3_51) rfl rfl ?_
    refine XS.aload X12.here hx rfl (hb hby d3_52) rfl rfl ?_
    refine st17 _ ?_
    show Steps _ _ _ (T17.setTop (mkF m 57 #[rv u0, rv u1, iv (0 : Int32), iv (2 : Int32), .val .null, rv t_3] [])) _
    exact X17.returnOut hx Bd.returns (hb hby d3_57) hr
  · show Q_rmI4_2 Z u0 u1 kA c0 c1 zC h0 n0 _ T17.heap _
    rw [e17]
    exact ⟨t_3, kt_3, rfl, N18, K19, zt_3, f20, f17_, f21, f22, f23⟩

theorem ef_rmI1_2 (m : MethodId) (x0 : Addr) (x1 : Addr) : entryFrame m #[(.ref x0), (.ref x1)] 2 = mkF m 0 #[rv x0, rv x1] [] := by first | (simp [entryFrame, mkF, argsToLocals, Value.category]; done) | rfl
def Q_rmI1_2 (Z : State) (u0 : Addr) (u1 : Addr) (kA : ClassId) (c0 : Int32) (c1 : Int32) (zC : Int32) (h0 : Heap) (n0 : Nat) (v : Option Value) (h : Heap) (L : List Loc) : Prop := ∃ (t : Addr), ∃ (kt : ClassId), (v = none ∧ Fr n0 L ∧ Keep h0 h [u0] ∧ h0.size ≤ t ∧ Exa Z h u0 "java/lang/String" ∧ Fld Z h u0 "java/lang/String" "value" "[B" (.ref t) ∧ Fld Z h u0 "java/lang/String" "coder" "B" (.int (0 : Int32)) ∧ Exa Z h t "[B" ∧ Arv Z h t kt .byte (2 : Int32) [(.int c0), (.int c1)] (.int (0 : Int32)))
set_option maxRecDepth 65536 in
set_option maxHeartbeats 40000000 in
theorem rmI1_2 (l : Launch) (Z : State) (a0 : Array Value) (hw : ∀ d ∈ tables_1, d.before a0 Z = true) (ws : List Jvm.Cond) (u0 : Addr) (u1 : Addr) (kA : ClassId) (c0 : Int32) (c1 : Int32) (zC : Int32) (h0 : Heap) (n0 : Nat) (Z0 : n0 ≤ h0.size) (P_E_u0 : Exa Z h0 u0 "java/lang/String") (P_F_u0_String_value : Fld Z h0 u0 "java/lang/String" "value" "[B" .null) (P_F_u0_String_coder : Fld Z h0 u0 "java/lang/String" "coder" "B" (.int (0 : Int32))) (P_V_u1 : Arv Z h0 u1 kA .char (2 : Int32) [(.int c0), (.int c1)] (.int (0 : Int32))) (neA : u0 ≠ u1) (hc0 : ¬ c0 < 0 ∧ ¬ (127 : Int32) < c0) (hc1 : ¬ c1 < 0 ∧ ¬ (127 : Int32) < c1) (P_S_String_COMPACT_STRINGS : Sta Z h0 "java/lang/String" "COMPACT_STRINGS" "Z" (.int zC)) (hz : ¬ (zC = (0 : Int32))) (g_u0 : n0 ≤ u0) :
    own_MF l own_y4 (Jvm.Cond.code own_y4 jdk_42_method_3_code 2 none) ws ({ frames := 3, cells := 1, slots := 2, locals := 52 } : Room) #[(.ref u0), (.ref u1)] Z h0 (Q_rmI1_2 Z u0 u1 kA c0 c1 zC h0 n0) := by
  refine MetFree.of_bodySF (plainFor_of_name pn_2) hisR ?_
  intro p e s m args below meth c s₁ Bd hml0 hP hK
  obtain ⟨rfl, hZ, hh⟩ := hP
  have hx := Bd.exec
  have hby := Bd.bytes
  have hml : c.maxLocals = 2 := hml0
  have hown : s.vm.findClass "java/lang/String" = some m.cls := findClass_of_methodNamed Bd.named
  have hnm := (name_of_methodNamed Bd.named Bd.method).1
  have X0 : Stand p l e ({ frames := 3, cells := 1, slots := 2, locals := 52 } : Room) s m #[(.ref u0), (.ref u1)] below meth c s₁ [] 0 0 := Stand.of_body Bd
  have e0 : s₁.heap = h0 := by rw [← hh, Bd.state]; rfl
  have N0 := Fr.nil n0
  have pre0 : ∀ t, Steps p.tables e below (s₁.setTop (mkF m 0 #[rv u0, rv u1] [])) t → Steps p.tables e below (s₁.setTop (entryFrame m #[(.ref u0), (.ref u1)] 2)) t := fun t k => castTop (ef_rmI1_2 m u0 u1) k
  obtain ⟨cl1, Ar1, qq1, S1, N1_, H1, G1⟩ := id P_V_u1
  obtain ⟨_, _, ⟨T2, L2, k2, n2⟩, -, X2, ⟨Lc2, hQ2, l2, y2, z2⟩, st2⟩ := X0.specialBack hx (y := own_y3) rfl hown (mvT hZ (own_g hw 13 rfl)) (mvT hZ (own_g hw 14 rfl)) (mvT hZ (own_g hw 16 rfl)) (by decide) (backOf (W := 0) (rmI4_2 l Z a0 hw [] u0 u1 kA c0 c1 zC h0 n0 Z0 P_E_u0 P_F_u0_String_value P_F_u0_String_coder P_V_u1 neA hc0 hc1 P_S_String_COMPACT_STRINGS hz g_u0) hZ (own_g hw 16 rfl) (own_g hw 8 rfl) (by decide) (by decide)) (g := (mkF m 6 #[rv u0, rv u1] [.null, (.int (2 : Int32)), (.int (0 : Int32)), (.ref u1), (.ref u0)])) rfl (by rw [hml]; rfl) (Steps.refl _) (a := u0) (argsL := [(.ref u1), (.int (0 : Int32)), (.int (2 : Int32)), .null]) (rest := []) (lenOf pd___CIILjava_lang_Void__V rfl) rfl (by show 2 * 0 + _ ≤ _; exact Nat.le_of_eq rfl) (hb hby d2_6) (fun _ _ => ⟨rfl, e0, (by decide : 0 + 1 ≤ _), (by decide : 0 + 2 ≤ _)⟩)
  dsimp only [Pt.U, Pt.locs, Pt.cells, Pt.slots] at X2 l2 y2 z2 st2 hQ2
  subst l2 y2 z2
  obtain ⟨t_2, kt_2, rfl, N2q, K2, sx2_0, f3, f4, f5, f6, f7⟩ := hQ2
  have ot_2 : n0 ≤ t_2 := Nat.le_trans Z0 sx2_0
  have zt_2 : h0.size ≤ t_2 := Nat.le_trans (Keep.refl h0 [u0]).1 sx2_0
  have ne8 : u0 ≠ t_2 := Nat.ne_of_lt (Nat.lt_of_lt_of_le P_E_u0.lt sx2_0)
  have ne9 : u1 ≠ t_2 := Nat.ne_of_lt (Nat.lt_of_lt_of_le P_V_u1.lt sx2_0)
  have KK2 : Keep h0 T2.heap [u0] := Keep.trans (Keep.refl h0 [u0]) K2 (allS (Or.inl (List.mem_of_getElem? (i := 0) rfl)) all0)
  have N2 := Fr.app N0 N2q
  obtain ⟨fs, hr, hrun, hended, hW, hsame⟩ := X2.leave (v := none) (fun _ => rfl)
  refine ⟨_, _, pre0 _ ?_, hrun, hended, _, _, rfl, ?_, ⟨_, rfl⟩, hW, hsame.mono (by decide) (by decide)⟩
  · refine XS.aloadN X0.here hx rfl (hb hby d2_0) rfl rfl ?_
    refine XS.aloadN X0.here hx rfl (hb hby d2_1) rfl rfl ?_
    refine XS.iconst X0.here hx rfl (hb hby d2_2) ?_
    refine XS.aloadN X0.here hx rfl (hb hby d2_3) rfl rfl ?_
    refine X0.arraylength hx (by rw [e0]; exact Ar1.1) (State.isArrayOf_alike hZ.alike Ar1.2.1) (g := (mkF m 4 #[rv u0, rv u1] [(.ref u1), (.int (0 : Int32)), (.ref u1), (.ref u0)])) rfl rfl (hb hby d2_4) _ ?_
    rw [len_of S1 N1_]
    refine XS.aconstNull X0.here hx rfl (hb hby d2_5) ?_
    show Steps _ _ _ (s₁.setTop (mkF m 6 #[rv u0, rv u1] [.null, (.int (2 : Int32)), (.int (0 : Int32)), (.ref u1), (.ref u0)])) _
    refine st2.trans ?_
    show Steps _ _ _ (T2.setTop (mkF m 9 #[rv u0, rv u1] [])) _
    exact X2.returnOut hx Bd.returns (hb hby d2_9) hr
  · show Q_rmI1_2 Z u0 u1 kA c0 c1 zC h0 n0 _ T2.heap _
    exact ⟨t_2, kt_2, rfl, N2, KK2, zt_2, f3, f4, f5, f6, f7⟩

theorem ef_rmC5_3 (m : MethodId) (x0 : Addr) (x1 : Int32) (x2 : Addr) (x3 : Int32) (x4 : Int32) : entryFrame m #[(.ref x0), (.int x1), (.ref x2), (.int x3), (.int x4)] 7 = mkF m 0 #[rv x0, iv x1, rv x2, iv x3, iv x4, .unset, .unset] [] := by first | (simp [entryFrame, mkF, argsToLocals, Value.category]; done) | rfl
def Q_rmC5_3 (Z : State) (u0 : Addr) (u2 : Addr) (kA : ClassId) (c0 : Int32) (c1 : Int32) (c2 : Int32) (kB : ClassId) (d0 : Int32) (d1 : Int32) (d2 : Int32) (h0 : Heap) (n0 : Nat) (v : Option Value) (h : Heap) (L : List Loc) : Prop := (v = (some (.int (3 : Int32))) ∧ Fr n0 L ∧ Keep h0 h [u2] ∧ Arv Z h u2 kB .byte (3 : Int32) [(.int c0), (.int c1), (.int c2)] (.int (0 : Int32)))
set_option maxRecDepth 65536 in
set_option maxHeartbeats 40000000 in
theorem rmC5_3 (l : Launch) (Z : State) (a0 : Array Value) (hw : ∀ d ∈ tables_1, d.before a0 Z = true) (ws : List Jvm.Cond) (u0 : Addr) (u2 : Addr) (kA : ClassId) (c0 : Int32) (c1 : Int32) (c2 : Int32) (kB : ClassId) (d0 : Int32) (d1 : Int32) (d2 : Int32) (h0 : Heap) (n0 : Nat) (Z0 : n0 ≤ h0.size) (P_V_u0 : Arv Z h0 u0 kA .char (3 : Int32) [(.int c0), (.int c1), (.int c2)] (.int (0 : Int32))) (P_V_u2 : Arv Z h0 u2 kB .byte (3 : Int32) [(.int d0), (.int d1), (.int d2)] (.int (0 : Int32))) (neA : u0 ≠ u2) (hc0 : ¬ c0 < 0 ∧ ¬ (127 : Int32) < c0) (hc1 : ¬ c1 < 0 ∧ ¬ (127 : Int32) < c1) (hc2 : ¬ c2 < 0 ∧ ¬ (127 : Int32) < c2) (g_u2 : n0 ≤ u2) :
    own_MF l own_y0 (Jvm.Cond.code own_y0 jdk_52_method_21_code 7 (some .int)) ws ({ frames := 0, cells := 0, slots := 0, locals := 0 } : Room) #[(.ref u0), (.int (0 : Int32)), (.ref u2), (.int (0 : Int32)), (.int (3 : Int32))] Z h0 (Q_rmC5_3 Z u0 u2 kA c0 c1 c2 kB d0 d1 d2 h0 n0) := by
  refine MetFree.of_bodySF (plainFor_of_name pn_23) hisR ?_
  intro p e s m args below meth c s₁ Bd hml0 hP hK
  obtain ⟨rfl, hZ, hh⟩ := hP
  have hx := Bd.exec
  have hby := Bd.bytes
  have hml : c.maxLocals = 7 := hml0
  have hown : s.vm.findClass "java/lang/StringUTF16" = some m.cls := findClass_of_methodNamed Bd.named
  have hnm := (name_of_methodNamed Bd.named Bd.method).1
  have X0 : Stand p l e ({ frames := 0, cells := 0, slots := 0, locals := 0 } : Room) s m #[(.ref u0), (.int (0 : Int32)), (.ref u2), (.int (0 : Int32)), (.int (3 : Int32))] below meth c s₁ [] 0 0 := Stand.of_body Bd
  have e0 : s₁.heap = h0 := by rw [← hh, Bd.state]; rfl
  have N0 := Fr.nil n0
  have pre0 : ∀ t, Steps p.tables e below (s₁.setTop (mkF m 0 #[rv u0, iv (0 : Int32), rv u2, iv (0 : Int32), iv (3 : Int32), .unset, .unset] [])) t → Steps p.tables e below (s₁.setTop (entryFrame m #[(.ref u0), (.int (0 : Int32)), (.ref u2), (.int (0 : Int32)), (.int (3 : Int32))] 7)) t := fun t k => castTop (ef_rmC5_3 m u0 (0 : Int32) u2 (0 : Int32) (3 : Int32)) k
  obtain ⟨cl1, Ar1, qq1, S1, N1_, H1, G1⟩ := id P_V_u0
  have hin1 : ¬ ((0 : Int32) < 0 ∨ cl1.slots.size ≤ ((0 : Int32)).toNatClampNeg) := inb_of S1 ⟨by decide, by decide⟩
  have hat1 : cl1.slots[((0 : Int32)).toNatClampNeg]? = some (.int c0) := H1.at hin1 rfl
  obtain ⟨cl2, Ar2, qq2, S2, N2_, H2, G2⟩ := id P_V_u2
  have hin2 : ¬ ((0 : Int32) < 0 ∨ cl2.slots.size ≤ ((0 : Int32)).toNatClampNeg) := inb_of S2 ⟨by decide, by decide⟩
  obtain ⟨T3, h3, X3, e3, W3, st3⟩ := stB X0 hx hZ e0 Ar2 (j := (0 : Int32)) hin2 (g := (mkF m 31 #[rv u0, iv (0 : Int32), rv u2, iv (0 : Int32), iv (3 : Int32), iv (0 : Int32), iv c0] [(.int c0), (.int (0 : Int32)), (.ref u2)])) rfl rfl (hb hby d23_31)
  have V3 : Arv Z h3 u2 kB .byte (3 : Int32) [(.int c0), (.int d1), (.int d2)] (.int (0 : Int32)) := by have q_ := Arv.set Ar2 qq2 S2 N2_ H2 G2 (fits_nar_byte _) W3 0 rfl (Nat.le_of_ble_eq_true rfl); rw [own_n1 hc0] at q_; exact q_
  have N4 := Fr.snoc X3 N0 g_u2
  have K5 : Keep h0 h3 [u2] := (Keep.refl h0 [u2]).wr W3 (Or.inl (List.mem_of_getElem? (i := 0) rfl))
  have f6 := (P_V_u0.other W3 neA)
  obtain ⟨cl7, Ar7, qq7, S7, N7_, H7, G7⟩ := id f6
  have hin7 : ¬ ((1 : Int32) < 0 ∨ cl7.slots.size ≤ ((1 : Int32)).toNatClampNeg) := inb_of S7 ⟨by decide, by decide⟩
  have hat7 : cl7.slots[((1 : Int32)).toNatClampNeg]? = some (.int c1) := H7.at hin7 rfl
  obtain ⟨cl8, Ar8, qq8, S8, N8_, H8, G8⟩ := id V3
  have hin8 : ¬ ((1 : Int32) < 0 ∨ cl8.slots.size ≤ ((1 : Int32)).toNatClampNeg) := inb_of S8 ⟨by decide, by decide⟩
  obtain ⟨T9, h9, X9, e9, W9, st9⟩ := stB X3 hx hZ e3 Ar8 (j := (1 : Int32)) hin8 (g := (mkF m 31 #[rv u0, iv (1 : Int32), rv u2, iv (1 : Int32), iv (3 : Int32), iv (1 : Int32), iv c1] [(.int c1), (.int (1 : Int32)), (.ref u2)])) rfl rfl (hb hby d23_31)
  have V9 : Arv Z h9 u2 kB .byte (3 : Int32) [(.int c0), (.int c1), (.int d2)] (.int (0 : Int32)) := by have q_ := Arv.set Ar8 qq8 S8 N8_ H8 G8 (fits_nar_byte _) W9 1 rfl (Nat.le_of_ble_eq_true rfl); rw [own_n1 hc1] at q_; exact q_
  have N10 := Fr.snoc X9 N4 g_u2
  have K11 : Keep h0 h9 [u2] := K5.wr W9 (Or.inl (List.mem_of_getElem? (i := 0) rfl))
  have f12 := (f6.other W9 neA)
  obtain ⟨cl13, Ar13, qq13, S13, N13_, H13, G13⟩ := id f12
  have hin13 : ¬ ((2 : Int32) < 0 ∨ cl13.slots.size ≤ ((2 : Int32)).toNatClampNeg) := inb_of S13 ⟨by decide, by decide⟩
  have hat13 : cl13.slots[((2 : Int32)).toNatClampNeg]? = some (.int c2) := H13.at hin13 rfl
  obtain ⟨cl14, Ar14, qq14, S14, N14_, H14, G14⟩ := id V9
  have hin14 : ¬ ((2 : Int32) < 0 ∨ cl14.slots.size ≤ ((2 : Int32)).toNatClampNeg) := inb_of S14 ⟨by decide, by decide⟩
  obtain ⟨T15, h15, X15, e15, W15, st15⟩ := stB X9 hx hZ e9 Ar14 (j := (2 : Int32)) hin14 (g := (mkF m 31 #[rv u0, iv (2 : Int32), rv u2, iv (2 : Int32), iv (3 : Int32), iv (2 : Int32), iv c2] [(.int c2), (.int (2 : Int32)), (.ref u2)])) rfl rfl (hb hby d23_31)
  have V15 : Arv Z h15 u2 kB .byte (3 : Int32) [(.int c0), (.int c1), (.int c2)] (.int (0 : Int32)) := by have q_ := Arv.set Ar14 qq14 S14 N14_ H14 G14 (fits_nar_byte _) W15 2 rfl (Nat.le_of_ble_eq_true rfl); rw [own_n1 hc2] at q_; exact q_
  have N16 := Fr.snoc X15 N10 g_u2
  have K17 : Keep h0 h15 [u2] := K11.wr W15 (Or.inl (List.mem_of_getElem? (i := 0) rfl))
  obtain ⟨fs, hr, hrun, hended, hW, hsame⟩ := X15.leave (v := some (.int (3 : Int32))) (fun h => by rw [Bd.returns] at h; cases h)
  refine ⟨_, _, pre0 _ ?_, hrun, hended, _, _, rfl, ?_, ⟨_, rfl⟩, hW, hsame.mono (by decide) (by decide)⟩
  · refine XS.iconst X0.here hx rfl (hb hby d23_0) ?_
    refine XS.istore X0.here hx rfl (hb hby d23_1) rfl (l' := #[rv u0, iv (0 : Int32), rv u2, iv (0 : Int32), iv (3 : Int32), iv (0 : Int32), .unset]) rfl ?_
    refine XS.iload X0.here hx rfl (hb hby d23_3) rfl ?_
    refine XS.iload X0.here hx rfl (hb hby d23_5) rfl ?_
    refine XS.icmpNo X0.here hx rfl (hb hby d23_7) rfl (tlt (by decide : (0 : Int32) < (3 : Int32))).2.1 ?_
    refine XS.aloadN X0.here hx rfl (hb hby d23_10) rfl rfl ?_
    refine XS.iloadN X0.here hx rfl (hb hby d23_11) rfl ?_
    refine X0.caload hx (j := (0 : Int32)) (v := (.int c0)) (by rw [e0]; exact Ar1.1) (State.isArrayOf_alike hZ.alike Ar1.2.1) Ar1.2.2 hin1 hat1 (g := (mkF m 12 #[rv u0, iv (0 : Int32), rv u2, iv (0 : Int32), iv (3 : Int32), iv (0 : Int32), .unset] [(.int (0 : Int32)), (.ref u0)])) rfl rfl (hb hby d23_12) _ ?_
    refine XS.istore X0.here hx rfl (hb hby d23_13) rfl (l' := #[rv u0, iv (0 : Int32), rv u2, iv (0 : Int32), iv (3 : Int32), iv (0 : Int32), iv c0]) rfl ?_
    refine XS.iload X0.here hx rfl (hb hby d23_15) rfl ?_
    refine XS.sipush X0.here hx rfl (hb hby d23_17) ?_
    refine XS.icmpYes X0.here hx rfl (pc0 := 20) (pc' := 26) rfl (hb hby d23_20) rfl (flt (own_le hc0)).2.2.2 (by decide) (by decide) ?_
    refine XS.aloadN X0.here hx rfl (hb hby d23_26) rfl rfl ?_
    refine XS.iloadN X0.here hx rfl (hb hby d23_27) rfl ?_
    refine XS.iload X0.here hx rfl (hb hby d23_28) rfl ?_
    refine XS.i2b X0.here hx rfl (hb hby d23_30) rfl ?_
    show Steps _ _ _ (s₁.setTop (mkF m 31 #[rv u0, iv (0 : Int32), rv u2, iv (0 : Int32), iv (3 : Int32), iv (0 : Int32), iv c0] [(.int (c0.toInt8.toInt32)), (.int (0 : Int32)), (.ref u2)])) _
    rw [own_n1 hc0]
    refine st3 _ ?_
    refine XS.iinc X3.here hx rfl (hb hby d23_32) rfl (l' := #[rv u0, iv (1 : Int32), rv u2, iv (0 : Int32), iv (3 : Int32), iv (0 : Int32), iv c0]) rfl ?_
    refine XS.iinc X3.here hx rfl (hb hby d23_35) rfl (l' := #[rv u0, iv (1 : Int32), rv u2, iv (1 : Int32), iv (3 : Int32), iv (0 : Int32), iv c0]) rfl ?_
    refine XS.iinc X3.here hx rfl (hb hby d23_38) rfl (l' := #[rv u0, iv (1 : Int32), rv u2, iv (1 : Int32), iv (3 : Int32), iv (1 : Int32), iv c0]) rfl ?_
    refine XS.goto X3.here hx rfl (pc0 := 41) (pc' := 3) rfl (hb hby d23_41) (by decide) (by decide) ?_
    refine XS.iload X3.here hx rfl (hb hby d23_3) rfl ?_
    refine XS.iload X3.here hx rfl (hb hby d23_5) rfl ?_
    show Steps _ _ _ (T3.setTop (mkF m 7 #[rv u0, iv (1 : Int32), rv u2, iv (1 : Int32), iv (3 : Int32), iv (1 : Int32), iv c0] [(.int (3 : Int32)), (.int (1 : Int32))])) _
    refine XS.icmpNo X3.here hx rfl (hb hby d23_7) rfl (tlt (by decide : (1 : Int32) < (3 : Int32))).2.1 ?_
    refine XS.aloadN X3.here hx rfl (hb hby d23_10) rfl rfl ?_
    refine XS.iloadN X3.here hx rfl (hb hby d23_11) rfl ?_
    refine X3.caload hx (j := (1 : Int32)) (v := (.int c1)) (by rw [e3]; exact Ar7.1) (State.isArrayOf_alike hZ.alike Ar7.2.1) Ar7.2.2 hin7 hat7 (g := (mkF m 12 #[rv u0, iv (1 : Int32), rv u2, iv (1 : Int32), iv (3 : Int32), iv (1 : Int32), iv c0] [(.int (1 : Int32)), (.ref u0)])) rfl rfl (hb hby d23_12) _ ?_
    refine XS.istore X3.here hx rfl (hb hby d23_13) rfl (l' := #[rv u0, iv (1 : Int32), rv u2, iv (1 : Int32), iv (3 : Int32), iv (1 : Int32), iv c1]) rfl ?_
    refine XS.iload X3.here hx rfl (hb hby d23_15) rfl ?_
    refine XS.sipush X3.here hx rfl (hb hby d23_17) ?_
    refine XS.icmpYes X3.here hx rfl (pc0 := 20) (pc' := 26) rfl (hb hby d23_20) rfl (flt (own_le hc1)).2.2.2 (by decide) (by decide) ?_
    refine XS.aloadN X3.here hx rfl (hb hby d23_26) rfl rfl ?_
    refine XS.iloadN X3.here hx rfl (hb hby d23_27) rfl ?_
    refine XS.iload X3.here hx rfl (hb hby d23_28) rfl ?_
    refine XS.i2b X3.here hx rfl (hb hby d23_30) rfl ?_
    show Steps _ _ _ (T3.setTop (mkF m 31 #[rv u0, iv (1 : Int32), rv u2, iv (1 : Int32), iv (3 : Int32), iv (1 : Int32), iv c1] [(.int (c1.toInt8.toInt32)), (.int (1 : Int32)), (.ref u2)])) _
    rw [own_n1 hc1]
    refine st9 _ ?_
    refine XS.iinc X9.here hx rfl (hb hby d23_32) rfl (l' := #[rv u0, iv (2 : Int32), rv u2, iv (1 : Int32), iv (3 : Int32), iv (1 : Int32), iv c1]) rfl ?_
    refine XS.iinc X9.here hx rfl (hb hby d23_35) rfl (l' := #[rv u0, iv (2 : Int32), rv u2, iv (2 : Int32), iv (3 : Int32), iv (1 : Int32), iv c1]) rfl ?_
    refine XS.iinc X9.here hx rfl (hb hby d23_38) rfl (l' := #[rv u0, iv (2 : Int32), rv u2, iv (2 : Int32), iv (3 : Int32), iv (2 : Int32), iv c1]) rfl ?_
    refine XS.goto X9.here hx rfl (pc0 := 41) (pc' := 3) rfl (hb hby d23_41) (by decide) (by decide) ?_
    refine XS.iload X9.here hx rfl (hb hby d23_3) rfl ?_
    refine XS.iload X9.here hx rfl (hb hby d23_5) rfl ?_
    refine XS.icmpNo X9.here hx rfl (hb hby d23_7) rfl (tlt (by decide : (2 : Int32) < (3 : Int32))).2.1 ?_
    refine XS.aloadN X9.here hx rfl (hb hby d23_10) rfl rfl ?_
    refine XS.iloadN X9.here hx rfl (hb hby d23_11) rfl ?_
    refine X9.caload hx (j := (2 : Int32)) (v := (.int c2)) (by rw [e9]; exact Ar13.1) (State.isArrayOf_alike hZ.alike Ar13.2.1) Ar13.2.2 hin13 hat13 (g := (mkF m 12 #[rv u0, iv (2 : Int32), rv u2, iv (2 : Int32), iv (3 : Int32), iv (2 : Int32), iv c1] [(.int (2 : Int32)), (.ref u0)])) rfl rfl (hb hby d23_12) _ ?_
    refine XS.istore X9.here hx rfl (hb hby d23_13) rfl (l' := #[rv u0, iv (2 : Int32), rv u2, iv (2 : Int32), iv (3 : Int32), iv (2 : Int32), iv c2]) rfl ?_
    show Steps _ _ _ (T9.setTop (mkF m 15 #[rv u0, iv (2 : Int32), rv u2, iv (2 : Int32), iv (3 : Int32), iv (2 : Int32), iv c2] [])) _
    refine XS.iload X9.here hx rfl (hb hby d23_15) rfl ?_
    refine XS.sipush X9.here hx rfl (hb hby d23_17) ?_
    refine XS.icmpYes X9.here hx rfl (pc0 := 20) (pc' := 26) rfl (hb hby d23_20) rfl (flt (own_le hc2)).2.2.2 (by decide) (by decide) ?_
    refine XS.aloadN X9.here hx rfl (hb hby d23_26) rfl rfl ?_
    refine XS.iloadN X9.here hx rfl (hb hby d23_27) rfl ?_
    refine XS.iload X9.here hx rfl (hb hby d23_28) rfl ?_
    refine XS.i2b X9.here hx rfl (hb hby d23_30) rfl ?_
    show Steps _ _ _ (T9.setTop (mkF m 31 #[rv u0, iv (2 : Int32), rv u2, iv (2 : Int32), iv (3 : Int32), iv (2 : Int32), iv c2] [(.int (c2.toInt8.toInt32)), (.int (2 : Int32)), (.ref u2)])) _
    rw [own_n1 hc2]
    refine st15 _ ?_
    refine XS.iinc X15.here hx rfl (hb hby d23_32) rfl (l' := #[rv u0, iv (3 : Int32), rv u2, iv (2 : Int32), iv (3 : Int32), iv (2 : Int32), iv c2]) rfl ?_
    refine XS.iinc X15.here hx rfl (hb hby d23_35) rfl (l' := #[rv u0, iv (3 : Int32), rv u2, iv (3 : Int32), iv (3 : Int32), iv (2 : Int32), iv c2]) rfl ?_
    refine XS.iinc X15.here hx rfl (hb hby d23_38) rfl (l' := #[rv u0, iv (3 : Int32), rv u2, iv (3 : Int32), iv (3 : Int32), iv (3 : Int32), iv c2]) rfl ?_
    refine XS.goto X15.here hx rfl (pc0 := 41) (pc' := 3) rfl (hb hby d23_41) (by decide) (by decide) ?_
    refine XS.iload X15.here hx rfl (hb hby d23_3) rfl ?_
    refine XS.iload X15.here hx rfl (hb hby d23_5) rfl ?_
    refine XS.icmpYes X15.here hx rfl (pc0 := 7) (pc' := 44) rfl (hb hby d23_7) rfl (flt (by decide : ¬ ((3 : Int32) < (3 : Int32)))).2.1 (by decide) (by decide) ?_
    refine XS.iload X15.here hx rfl (hb hby d23_44) rfl ?_
    show Steps _ _ _ (T15.setTop (mkF m 46 #[rv u0, iv (3 : Int32), rv u2, iv (3 : Int32), iv (3 : Int32), iv (3 : Int32), iv c2] [(.int (3 : Int32))])) _
    exact retI X15 hx Bd.returns (hb hby d23_46) hr
  · show Q_rmC5_3 Z u0 u2 kA c0 c1 c2 kB d0 d1 d2 h0 n0 _ T15.heap _
    rw [e15]
    exact ⟨rfl, N16, K17, V15⟩

theorem ef_rmC3_3 (m : MethodId) (x0 : Addr) (x1 : Int32) (x2 : Int32) : entryFrame m #[(.ref x0), (.int x1), (.int x2)] 6 = mkF m 0 #[rv x0, iv x1, iv x2, .unset, .unset, .unset] [] := by first | (simp [entryFrame, mkF, argsToLocals, Value.category]; done) | rfl
def Q_rmC3_3 (Z : State) (u0 : Addr) (kA : ClassId) (c0 : Int32) (c1 : Int32) (c2 : Int32) (h0 : Heap) (n0 : Nat) (v : Option Value) (h : Heap) (L : List Loc) : Prop := ∃ (t : Addr), ∃ (kt : ClassId), (v = (some (.ref t)) ∧ Fr n0 L ∧ Keep h0 h [] ∧ h0.size ≤ t ∧ Exa Z h t "[B" ∧ Arv Z h t kt .byte (3 : Int32) [(.int c0), (.int c1), (.int c2)] (.int (0 : Int32)))
set_option maxRecDepth 65536 in
set_option maxHeartbeats 40000000 in
theorem rmC3_3 (l : Launch) (Z : State) (a0 : Array Value) (hw : ∀ d ∈ tables_1, d.before a0 Z = true) (ws : List Jvm.Cond) (u0 : Addr) (kA : ClassId) (c0 : Int32) (c1 : Int32) (c2 : Int32) (h0 : Heap) (n0 : Nat) (Z0 : n0 ≤ h0.size) (P_V_u0 : Arv Z h0 u0 kA .char (3 : Int32) [(.int c0), (.int c1), (.int c2)] (.int (0 : Int32))) (hc0 : ¬ c0 < 0 ∧ ¬ (127 : Int32) < c0) (hc1 : ¬ c1 < 0 ∧ ¬ (127 : Int32) < c1) (hc2 : ¬ c2 < 0 ∧ ¬ (127 : Int32) < c2) :
    own_MF l own_y1 (Jvm.Cond.code own_y1 jdk_52_method_16_code 6 (some (.array .byte))) ws ({ frames := 1, cells := 1, slots := 3, locals := 18 } : Room) #[(.ref u0), (.int (0 : Int32)), (.int (3 : Int32))] Z h0 (Q_rmC3_3 Z u0 kA c0 c1 c2 h0 n0) := by
  refine MetFree.of_bodySF (plainFor_of_name pn_22) hisR ?_
  intro p e s m args below meth c s₁ Bd hml0 hP hK
  obtain ⟨rfl, hZ, hh⟩ := hP
  have hx := Bd.exec
  have hby := Bd.bytes
  have hml : c.maxLocals = 6 := hml0
  have hown : s.vm.findClass "java/lang/StringUTF16" = some m.cls := findClass_of_methodNamed Bd.named
  have hnm := (name_of_methodNamed Bd.named Bd.method).1
  have X0 : Stand p l e ({ frames := 1, cells := 1, slots := 3, locals := 18 } : Room) s m #[(.ref u0), (.int (0 : Int32)), (.int (3 : Int32))] below meth c s₁ [] 0 0 := Stand.of_body Bd
  have e0 : s₁.heap = h0 := by rw [← hh, Bd.state]; rfl
  have N0 := Fr.nil n0
  have pre0 : ∀ t, Steps p.tables e below (s₁.setTop (mkF m 0 #[rv u0, iv (0 : Int32), iv (3 : Int32), .unset, .unset, .unset] [])) t → Steps p.tables e below (s₁.setTop (entryFrame m #[(.ref u0), (.int (0 : Int32)), (.int (3 : Int32))] 6)) t := fun t k => castTop (ef_rmC3_3 m u0 (0 : Int32) (3 : Int32)) k
  obtain ⟨T1, h1, k1, X1, e1, E1, A1, Q1, st1⟩ := newPE X0 hx hZ (own_g hw 21 rfl) e0 (g := (mkF m 1 #[rv u0, iv (0 : Int32), iv (3 : Int32), .unset, .unset, .unset] [(.int (3 : Int32))])) rfl (hb hby d22_1) rfl (by decide) (cap := 3) (by decide) (by decide) (by decide) (by decide) (ad := "[B") rfl
  obtain ⟨b1, g1⟩ : ∃ z, z = h0.size := ⟨_, rfl⟩
  rw [← g1] at A1 st1 Q1
  have ne2 : u0 ≠ b1 := Nat.ne_of_lt (Nat.lt_of_lt_of_le P_V_u0.lt (Nat.le_of_eq g1.symm))
  have o1 : n0 ≤ b1 := Nat.le_trans Z0 (Nat.le_of_eq g1.symm)
  have z1 : h0.size ≤ b1 := Nat.le_trans (Keep.refl h0 []).1 (Nat.le_of_eq g1.symm)
  have K1 : Keep h0 h1 [] := (Keep.refl h0 []).ext E1
  have V1 : Arv Z h1 b1 k1 .byte (3 : Int32) [(.int (0 : Int32)), (.int (0 : Int32)), (.int (0 : Int32))] (.int (0 : Int32)) := (Arv.new A1 (by decide)).pad (pad_rep [] (.int (0 : Int32)) 3)
  have f3 := (P_V_u0.ext E1)
  have f4 := (Nat.le_trans Z0 E1.1)
  obtain ⟨_, _, ⟨T5, L5, k5, n5⟩, -, X5, ⟨Lc5, hQ5, l5, y5, z5⟩, st5⟩ := Jvm.LawKit.callS X1 hx (y := own_y0) hown (mvT hZ (own_g hw 144 rfl)) (mvT hZ (own_g hw 145 rfl)) (mvT hZ (own_g hw 142 rfl)) (mvT hZ (own_g hw 146 rfl)) (by decide) (backOf (W := 0) (rmC5_3 l Z a0 hw [] u0 b1 kA c0 c1 c2 k1 (0 : Int32) (0 : Int32) (0 : Int32) h1 n0 f4 f3 V1 ne2 hc0 hc1 hc2 o1) hZ (own_g hw 146 rfl) (own_g hw 142 rfl) (by decide) (by decide)) (g := (mkF m 9 #[rv u0, iv (0 : Int32), iv (3 : Int32), rv b1, .unset, .unset] [(.int (3 : Int32)), (.int (0 : Int32)), (.ref b1), (.int (0 : Int32)), (.ref u0)])) rfl (by rw [hml]; rfl) (argsL := [(.ref u0), (.int (0 : Int32)), (.ref b1), (.int (0 : Int32)), (.int (3 : Int32))]) (rest := []) (lenOf pd___CI_BII_I rfl) rfl (by show 2 * 0 + _ ≤ _; exact Nat.le_of_eq rfl) (hb hby d22_9) (fun _ _ => ⟨rfl, e1, (by decide : 1 + 0 ≤ _), (by decide : 3 + 0 ≤ _)⟩)
  dsimp only [Pt.U, Pt.locs, Pt.cells, Pt.slots] at X5 l5 y5 z5 st5 hQ5
  subst l5 y5 z5
  obtain ⟨rfl, N5q, K5, f6⟩ := hQ5
  have KK5 : Keep h0 T5.heap [] := Keep.trans K1 K5 (allS (Or.inr z1) all0)
  have N5 := Fr.app N0 N5q
  obtain ⟨fs, hr, hrun, hended, hW, hsame⟩ := X5.leave (v := some (.ref b1)) (fun h => by rw [Bd.returns] at h; cases h)
  have f7 := (Q1.keep K5)
  refine ⟨_, _, pre0 _ ?_, hrun, hended, _, _, rfl, ?_, ⟨_, rfl⟩, hW, hsame.mono (by decide) (by decide)⟩
  · refine XS.iloadN X0.here hx rfl (hb hby d22_0) rfl ?_
    refine st1 _ ?_
    refine XS.astoreN X1.here hx rfl (hb hby d22_3) rfl rfl (l' := #[rv u0, iv (0 : Int32), iv (3 : Int32), rv b1, .unset, .unset]) rfl ?_
    refine XS.aloadN X1.here hx rfl (hb hby d22_4) rfl rfl ?_
    refine XS.iloadN X1.here hx rfl (hb hby d22_5) rfl ?_
    refine XS.aloadN X1.here hx rfl (hb hby d22_6) rfl rfl ?_
    refine XS.iconst X1.here hx rfl (hb hby d22_7) ?_
    refine XS.iloadN X1.here hx rfl (hb hby d22_8) rfl ?_
    show Steps _ _ _ (T1.setTop (mkF m 9 #[rv u0, iv (0 : Int32), iv (3 : Int32), rv b1, .unset, .unset] [(.int (3 : Int32)), (.int (0 : Int32)), (.ref b1), (.int (0 : Int32)), (.ref u0)])) _
    refine st5 _ ?_
    refine XS.istore X5.here hx rfl (hb hby d22_12) rfl (l' := #[rv u0, iv (0 : Int32), iv (3 : Int32), rv b1, iv (3 : Int32), .unset]) rfl ?_
    refine XS.iload X5.here hx rfl (hb hby d22_14) rfl ?_
    refine XS.iloadN X5.here hx rfl (hb hby d22_16) rfl ?_
    refine XS.icmpYes X5.here hx rfl (pc0 := 17) (pc' := 57) rfl (hb hby d22_17) rfl (teq (by decide : (3 : Int32) = (3 : Int32))).1 (by decide) (by decide) ?_
    refine XS.aloadN X5.here hx rfl (hb hby d22_57) rfl rfl ?_
    show Steps _ _ _ (T5.setTop (mkF m 58 #[rv u0, iv (0 : Int32), iv (3 : Int32), rv b1, iv (3 : Int32), .unset] [(.ref b1)])) _
    exact retOut X5 hx Bd.returns rfl (Or.inr (Or.inr (Or.inr (Or.inr ⟨rfl, rfl, rfl⟩)))) (hb hby d22_58) hr
  · show Q_rmC3_3 Z u0 kA c0 c1 c2 h0 n0 _ T5.heap _
    exact ⟨b1, k1, rfl, N5, KK5, z1, f7, f6⟩

theorem ef_rmCF3 (m : MethodId) (x0 : Addr) (x1 : Int32) : entryFrame m #[(.ref x0), (.int x1)] 2 = mkF m 0 #[rv x0, iv x1] [] := by first | (simp [entryFrame, mkF, argsToLocals, Value.category]; done) | rfl
set_option maxRecDepth 65536 in
set_option maxHeartbeats 40000000 in
theorem rmCF3 (l : Launch) (Z : State) (a0 : Array Value) (hw : ∀ d ∈ tables_1, d.before a0 Z = true) (ws : List Jvm.Cond) (u0 : Addr) (kt : ClassId) (vs : List Value) (h0 : Heap) (n0 : Nat) (Z0 : n0 ≤ h0.size) (P_G_u0 : Arv Z h0 u0 kt .byte (3 : Int32) vs (.int 0)) :
    own_MF l own_y2 (Jvm.Cond.code own_y2 jdk_52_method_15_code 2 (some .byte)) ws ({ frames := 0, cells := 0, slots := 0, locals := 0 } : Room) #[(.ref u0), (.int (3 : Int32))] Z h0 (own_QP (some (.int (0 : Int32))) h0 n0) := by
  refine MetFree.of_bodySF (plainFor_of_name pn_24) hisR ?_
  intro p e s m args below meth c s₁ Bd hml0 hP hK
  obtain ⟨rfl, hZ, hh⟩ := hP
  have hx := Bd.exec
  have hby := Bd.bytes
  have hml : c.maxLocals = 2 := hml0
  have hown : s.vm.findClass "java/lang/StringUTF16" = some m.cls := findClass_of_methodNamed Bd.named
  have hnm := (name_of_methodNamed Bd.named Bd.method).1
  have X0 : Stand p l e ({ frames := 0, cells := 0, slots := 0, locals := 0 } : Room) s m #[(.ref u0), (.int (3 : Int32))] below meth c s₁ [] 0 0 := Stand.of_body Bd
  have e0 : s₁.heap = h0 := by rw [← hh, Bd.state]; rfl
  have N0 := Fr.nil n0
  have pre0 : ∀ t, Steps p.tables e below (s₁.setTop (mkF m 0 #[rv u0, iv (3 : Int32)] [])) t → Steps p.tables e below (s₁.setTop (entryFrame m #[(.ref u0), (.int (3 : Int32))] 2)) t := fun t k => castTop (ef_rmCF3 m u0 (3 : Int32)) k
  obtain ⟨cl1, Ar1, qq1, S1, N1_, H1, G1⟩ := id P_G_u0
  obtain ⟨fs, hr, hrun, hended, hW, hsame⟩ := X0.leave (v := some (.int (0 : Int32))) (fun h => by rw [Bd.returns] at h; cases h)
  refine ⟨_, _, pre0 _ ?_, hrun, hended, _, _, rfl, ?_, ⟨_, rfl⟩, hW, hsame.mono (by decide) (by decide)⟩
  · refine XS.iloadN X0.here hx rfl (hb hby d24_0) rfl ?_
    refine XS.aloadN X0.here hx rfl (hb hby d24_1) rfl rfl ?_
    refine X0.arraylength hx (by rw [e0]; exact Ar1.1) (State.isArrayOf_alike hZ.alike Ar1.2.1) (g := (mkF m 2 #[rv u0, iv (3 : Int32)] [(.ref u0), (.int (3 : Int32))])) rfl rfl (hb hby d24_2) _ ?_
    rw [len_of S1 N1_]
    refine XS.isub X0.here hx rfl (hb hby d24_3) rfl ?_
    refine XS.bipush X0.here hx rfl (hb hby d24_4) ?_
    refine XS.iushr X0.here hx rfl (hb hby d24_6) rfl ?_
    show Steps _ _ _ (s₁.setTop (mkF m 7 #[rv u0, iv (3 : Int32)] [(.int (((0 : Int32).toUInt32 >>> ((31 : Int32) &&& 31).toUInt32).toInt32))])) _
    rw [(by decide : (((0 : Int32).toUInt32 >>> ((31 : Int32) &&& 31).toUInt32).toInt32) = (0 : Int32))]
    refine XS.i2b X0.here hx rfl (hb hby d24_7) rfl ?_
    show Steps _ _ _ (s₁.setTop (mkF m 8 #[rv u0, iv (3 : Int32)] [(.int ((0 : Int32).toInt8.toInt32))])) _
    rw [(by decide : ((0 : Int32).toInt8.toInt32) = (0 : Int32))]
    show Steps _ _ _ (s₁.setTop (mkF m 8 #[rv u0, iv (3 : Int32)] [(.int (0 : Int32))])) _
    exact retN X0 hx (t := .byte) Bd.returns (by simp) (hb hby d24_8) hr
  · show own_QP (some (.int (0 : Int32))) h0 n0 _ s₁.heap _
    rw [e0]
    exact ⟨rfl, N0, rfl⟩

theorem ef_rmI4_3 (m : MethodId) (x0 : Addr) (x1 : Addr) (x2 : Int32) (x3 : Int32) : entryFrame m #[(.ref x0), (.ref x1), (.int x2), (.int x3), .null] 6 = mkF m 0 #[rv x0, rv x1, iv x2, iv x3, .val .null, .unset] [] := by first | (simp [entryFrame, mkF, argsToLocals, Value.category]; done) | rfl
def Q_rmI4_3 (Z : State) (u0 : Addr) (u1 : Addr) (kA : ClassId) (c0 : Int32) (c1 : Int32) (c2 : Int32) (zC : Int32) (h0 : Heap) (n0 : Nat) (v : Option Value) (h : Heap) (L : List Loc) : Prop := ∃ (t : Addr), ∃ (kt : ClassId), (v = none ∧ Fr n0 L ∧ Keep h0 h [u0] ∧ h0.size ≤ t ∧ Exa Z h u0 "java/lang/String" ∧ Fld Z h u0 "java/lang/String" "value" "[B" (.ref t) ∧ Fld Z h u0 "java/lang/String" "coder" "B" (.int (0 : Int32)) ∧ Exa Z h t "[B" ∧ Arv Z h t kt .byte (3 : Int32) [(.int c0), (.int c1), (.int c2)] (.int (0 : Int32)))
set_option maxRecDepth 65536 in
set_option maxHeartbeats 40000000 in
theorem rmI4_3 (l : Launch) (Z : State) (a0 : Array Value) (hw : ∀ d ∈ tables_1, d.before a0 Z = true) (ws : List Jvm.Cond) (u0 : Addr) (u1 : Addr) (kA : ClassId) (c0 : Int32) (c1 : Int32) (c2 : Int32) (zC : Int32) (h0 : Heap) (n0 : Nat) (Z0 : n0 ≤ h0.size) (P_E_u0 : Exa Z h0 u0 "java/lang/String") (P_F_u0_String_value : Fld Z h0 u0 "java/lang/String" "value" "[B" .null) (P_F_u0_String_coder : Fld Z h0 u0 "java/lang/String" "coder" "B" (.int (0 : Int32))) (P_V_u1 : Arv Z h0 u1 kA .char (3 : Int32) [(.int c0), (.int c1), (.int c2)] (.int (0 : Int32))) (neA : u0 ≠ u1) (hc0 : ¬ c0 < 0 ∧ ¬ (127 : Int32) < c0) (hc1 : ¬ c1 < 0 ∧ ¬ (127 : Int32) < c1) (hc2 : ¬ c2 < 0 ∧ ¬ (127 : Int32) < c2) (P_S_String_COMPACT_STRINGS : Sta Z h0 "java/lang/String" "COMPACT_STRINGS" "Z" (.int zC)) (hz : ¬ (zC = (0 : Int32))) (g_u0 : n0 ≤ u0) :
    own_MF l own_y3 (Jvm.Cond.code own_y3 jdk_42_method_149_code 6 none) ws ({ frames := 2, cells := 1, slots := 3, locals := 35 } : Room) #[(.ref u0), (.ref u1), (.int (0 : Int32)), (.int (3 : Int32)), .null] Z h0 (Q_rmI4_3 Z u0 u1 kA c0 c1 c2 zC h0 n0) := by
  refine MetFree.of_bodySF (plainFor_of_name pn_3) hisR ?_
  intro p e s m args below meth c s₁ Bd hml0 hP hK
  obtain ⟨rfl, hZ, hh⟩ := hP
  have hx := Bd.exec
  have hby := Bd.bytes
  have hml : c.maxLocals = 6 := hml0
  have hown : s.vm.findClass "java/lang/String" = some m.cls := findClass_of_methodNamed Bd.named
  have hnm := (name_of_methodNamed Bd.named Bd.method).1
  have X0 : Stand p l e ({ frames := 2, cells := 1, slots := 3, locals := 35 } : Room) s m #[(.ref u0), (.ref u1), (.int (0 : Int32)), (.int (3 : Int32)), .null] below meth c s₁ [] 0 0 := Stand.of_body Bd
  have e0 : s₁.heap = h0 := by rw [← hh, Bd.state]; rfl
  have N0 := Fr.nil n0
  have pre0 : ∀ t, Steps p.tables e below (s₁.setTop (mkF m 0 #[rv u0, rv u1, iv (0 : Int32), iv (3 : Int32), .val .null, .unset] [])) t → Steps p.tables e below (s₁.setTop (entryFrame m #[(.ref u0), (.ref u1), (.int (0 : Int32)), (.int (3 : Int32)), .null] 6)) t := fun t k => castTop (ef_rmI4_3 m u0 u1 (0 : Int32) (3 : Int32)) k
  obtain ⟨T1, X1, e1, st1⟩ := initO X0 hx hZ hown (own_g hw 17 rfl) (own_g hw 18 rfl) (own_g hw 19 rfl) e0 (g := (mkF m 1 #[rv u0, rv u1, iv (0 : Int32), iv (3 : Int32), .val .null, .unset] [(.ref u0)])) rfl (by rw [hml]; rfl) rfl (hb hby d3_1) (by decide) (W := 0) (by show 2 * 0 + _ ≤ _; exact Nat.le_of_eq rfl) (by decide)
  obtain ⟨T2, X2, e2, st2⟩ := getS2 X1 hx hZ hown (host := "") (Or.inl (own_g hw 49 rfl)) Via.refl e1 P_S_String_COMPACT_STRINGS (g := (mkF m 27 #[rv u0, rv u1, iv (0 : Int32), iv (3 : Int32), .val .null, .unset] [])) rfl (hb hby d3_27)
  obtain ⟨_, _, ⟨T3, L3, k3, n3⟩, -, X3, ⟨Lc3, hQ3, l3, y3, z3⟩, st3⟩ := Jvm.LawKit.callS X2 hx (y := own_y1) hown (mvT hZ (own_g hw 140 rfl)) (mvT hZ (own_g hw 141 rfl)) (mvT hZ (own_g hw 142 rfl)) (mvT hZ (own_g hw 143 rfl)) (by decide) (backOf (W := 0) (rmC3_3 l Z a0 hw [] u1 kA c0 c1 c2 h0 n0 Z0 P_V_u1 hc0 hc1 hc2) hZ (own_g hw 143 rfl) (own_g hw 142 rfl) (by decide) (by decide)) (g := (mkF m 36 #[rv u0, rv u1, iv (0 : Int32), iv (3 : Int32), .val .null, .unset] [(.int (3 : Int32)), (.int (0 : Int32)), (.ref u1)])) rfl (by rw [hml]; rfl) (argsL := [(.ref u1), (.int (0 : Int32)), (.int (3 : Int32))]) (rest := []) (lenOf pd___CII__B rfl) rfl (by show 2 * 0 + _ ≤ _; exact Nat.le_of_eq rfl) (hb hby d3_36) (fun _ _ => ⟨rfl, e2, (by decide : 0 + 1 ≤ _), (by decide : 0 + 3 ≤ _)⟩)
  dsimp only [Pt.U, Pt.locs, Pt.cells, Pt.slots] at X3 l3 y3 z3 st3 hQ3
  subst l3 y3 z3
  obtain ⟨t_3, kt_3, rfl, N3q, K3, sx3_0, f4, f5⟩ := hQ3
  have ot_3 : n0 ≤ t_3 := Nat.le_trans Z0 sx3_0
  have zt_3 : h0.size ≤ t_3 := Nat.le_trans (Keep.refl h0 [u0]).1 sx3_0
  have ne6 : u0 ≠ t_3 := Nat.ne_of_lt (Nat.lt_of_lt_of_le P_E_u0.lt sx3_0)
  have ne7 : u1 ≠ t_3 := Nat.ne_of_lt (Nat.lt_of_lt_of_le P_V_u1.lt sx3_0)
  have KK3 : Keep h0 T3.heap [u0] := Keep.trans (Keep.refl h0 [u0]) K3 all0
  have N3 := Fr.app N0 N3q
  have f8 := (Nat.le_trans Z0 K3.1)
  obtain ⟨_, _, ⟨T9, L9, k9, n9⟩, -, X9, ⟨Lc9, hQ9, l9, y9, z9⟩, st9⟩ := Jvm.LawKit.callS X3 hx (y := own_y2) hown (mvT hZ (own_g hw 147 rfl)) (mvT hZ (own_g hw 148 rfl)) (mvT hZ (own_g hw 142 rfl)) (mvT hZ (own_g hw 149 rfl)) (by decide) (backOf (W := 1) (rmCF3 l Z a0 hw [] t_3 kt_3 [(.int c0), (.int c1), (.int c2)] T3.heap n0 f8 f5) hZ (own_g hw 149 rfl) (own_g hw 142 rfl) (by decide) (by decide)) (g := (mkF m 45 #[rv u0, rv u1, iv (0 : Int32), iv (3 : Int32), .val .null, rv t_3] [(.int (3 : Int32)), (.ref t_3), (.ref u0)])) rfl (by rw [hml]; rfl) (argsL := [(.ref t_3), (.int (3 : Int32))]) (rest := [(.ref u0)]) (lenOf pd___BI_B rfl) rfl (by show 2 * 0 + _ ≤ _; exact Nat.le_of_eq rfl) (hb hby d3_45) (fun _ _ => ⟨rfl, rfl, (by decide : 1 + 0 ≤ _), (by decide : 3 + 0 ≤ _)⟩)
  dsimp only [Pt.U, Pt.locs, Pt.cells, Pt.slots] at X9 l9 y9 z9 st9 hQ9
  subst l9 y9 z9
  obtain ⟨rfl, N9q, e9⟩ := hQ9
  have N9 := Fr.app N3 N9q
  have f10 := (P_E_u0.keep K3)
  have f11 := (P_F_u0_String_coder.keep K3 nin0)
  obtain ⟨T12, h12, X12, e12, W12, st12⟩ := putFN X9 hx hZ hown (own_g hw 27 rfl) Via.refl e9 f11 f10 (Or.inr ⟨(own_g hw 23 rfl), rfl, hnm⟩) (own_g hw 7 rfl) (ty := .byte) (v' := (.int (0 : Int32))) (by decide) rfl rfl (g := (mkF m 48 #[rv u0, rv u1, iv (0 : Int32), iv (3 : Int32), .val .null, rv t_3] [(.int (0 : Int32)), (.ref u0)])) rfl rfl (hb hby d3_48)
  have f12_ : Fld Z h12 u0 "java/lang/String" "coder" "B" (.int (0 : Int32)) := f11.same W12
  have N13 := Fr.snoc X12 N9 g_u0
  have K14 : Keep h0 h12 [u0] := KK3.wr W12 (Or.inl (List.mem_of_getElem? (i := 0) rfl))
  have f15 := (f10.wr W12)
  have f16 := ((P_F_u0_String_value.keep K3 nin0).other W12 (Or.inr (slot_ne (Or.inr (own_g hw 22 rfl)) (Or.inr (own_g hw 23 rfl)) (by decide) (t := (.array .byte)) (t' := .byte) (by decide) (by decide))))
  obtain ⟨T17, h17, X17, e17, W17, st17⟩ := putF X12 hx hZ hown (host := "") (Or.inl (own_g hw 26 rfl)) Via.refl e12 f16 f15 (Or.inr ⟨(own_g hw 22 rfl), rfl, hnm⟩) (own_g hw 7 rfl) (ty := (.array .byte)) (by decide) rfl rfl (g := (mkF m 54 #[rv u0, rv u1, iv (0 : Int32), iv (3 : Int32), .val .null, rv t_3] [(.ref t_3), (.ref u0)])) rfl rfl (hb hby d3_54)
  have f17_ : Fld Z h17 u0 "java/lang/String" "value" "[B" (.ref t_3) := f16.same W17
  have N18 := Fr.snoc X17 N13 g_u0
  have K19 : Keep h0 h17 [u0] := K14.wr W17 (Or.inl (List.mem_of_getElem? (i := 0) rfl))
  obtain ⟨fs, hr, hrun, hended, hW, hsame⟩ := X17.leave (v := none) (fun _ => rfl)
  have f20 := (f15.wr W17)
  have f21 := (f12_.other W17 (Or.inr (slot_ne (Or.inr (own_g hw 23 rfl)) (Or.inr (own_g hw 22 rfl)) (by decide) (t := .byte) (t' := (.array .byte)) (by decide) (by decide))))
  have f22 := ((f4.wr W12).wr W17)
  have f23 := ((f5.other W12 (Ne.symm ne6)).other W17 (Ne.symm ne6))
  refine ⟨_, _, pre0 _ ?_, hrun, hended, _, _, rfl, ?_, ⟨_, rfl⟩, hW, hsame.mono (by decide) (by decide)⟩
  · refine XS.aloadN X0.here hx rfl (hb hby d3_0) rfl rfl ?_
    show Steps _ _ _ (s₁.setTop (mkF m 1 #[rv u0, rv u1, iv (0 : Int32), iv (3 : Int32), .val .null, .unset] [(.ref u0)])) _
    refine st1 _ ?_
    refine XS.iloadN X1.here hx rfl (hb hby d3_4) rfl ?_
    refine XS.ifYes X1.here hx rfl (pc0 := 5) (pc' := 27) rfl (hb hby d3_5) rfl ((if0 _ _).trans (feq (by decide : ¬ ((3 : Int32) = (0 : Int32)))).2) (by decide) (by decide) ?_
    refine st2 _ ?_
    refine XS.ifNo X2.here hx rfl (hb hby d3_30) rfl ((if0 _ _).trans (feq hz).1) ?_
    refine XS.aloadN X2.here hx rfl (hb hby d3_33) rfl rfl ?_
    refine XS.iloadN X2.here hx rfl (hb hby d3_34) rfl ?_
    refine XS.iloadN X2.here hx rfl (hb hby d3_35) rfl ?_
    show Steps _ _ _ (T2.setTop (mkF m 36 #[rv u0, rv u1, iv (0 : Int32), iv (3 : Int32), .val .null, .unset] [(.int (3 : Int32)), (.int (0 : Int32)), (.ref u1)])) _
    refine st3 _ ?_
    refine XS.astore X3.here hx rfl (hb hby d3_39) rfl rfl (l' := #[rv u0, rv u1, iv (0 : Int32), iv (3 : Int32), .val .null, rv t_3]) rfl ?_
    refine XS.aloadN X3.here hx rfl (hb hby d3_41) rfl rfl ?_
    refine XS.aload X3.here hx rfl (hb hby d3_42) rfl rfl ?_
    refine XS.iloadN X3.here hx rfl (hb hby d3_44) rfl ?_
    show Steps _ _ _ (T3.setTop (mkF m 45 #[rv u0, rv u1, iv (0 : Int32), iv (3 : Int32), .val .null, rv t_3] [(.int (3 : Int32)), (.ref t_3), (.ref u0)])) _
    refine st9 _ ?_
    refine st12 _ ?_
    refine XS.aloadN X12.here hx rfl (hb hby d3_51) rfl rfl ?_
    refine XS.aload X12.here hx rfl (hb hby d3_52) rfl rfl ?_
    refine st17 _ ?_
    show Steps _ _ _ (T17.setTop (mkF m 57 #[rv u0, rv u1, iv (0 : Int32), iv (3 : Int32), .val .null, rv t_3] [])) _
    exact X17.returnOut hx Bd.returns (hb hby d3_57) hr
  · show Q_rmI4_3 Z u0 u1 kA c0 c1 c2 zC h0 n0 _ T17.heap _
    rw [e17]
    exact ⟨t_3, kt_3, rfl, N18, K19, zt_3, f20, f17_, f21, f22, f23⟩

theorem ef_rmI1_3 (m : MethodId) (x0 : Addr) (x1 : Addr) : entryFrame m #[(.ref x0), (.ref x1)] 2 = mkF m 0 #[rv x0, rv x1] [] := by first | (simp [entryFrame, mkF, argsToLocals, Value.category]; done) | rfl
def Q_rmI1_3 (Z : State) (u0 : Addr) (u1 : Addr) (kA : ClassId) (c0 : Int32) (c1 : Int32) (c2 : Int32) (zC : Int32) (h0 : Heap) (n0 : Nat) (v : Option Value) (h : Heap) (L : List Loc) : Prop := ∃ (t : Addr), ∃ (kt : ClassId), (v = none ∧ Fr n0 L ∧ Keep h0 h [u0] ∧ h0.size ≤ t ∧ Exa Z h u0 "java/lang/String" ∧ Fld Z h u0 "java/lang/String" "value" "[B" (.ref t) ∧ Fld Z h u0 "java/lang/String" "coder" "B" (.int (0 : Int32)) ∧ Exa Z h t "[B" ∧ Arv Z h t kt .byte (3 : Int32) [(.int c0), (.int c1), (.int c2)] (.int (0 : Int32)))
set_option maxRecDepth 65536 in
set_option maxHeartbeats 40000000 in
theorem rmI1_3 (l : Launch) (Z : State) (a0 : Array Value) (hw : ∀ d ∈ tables_1, d.before a0 Z = true) (ws : List Jvm.Cond) (u0 : Addr) (u1 : Addr) (kA : ClassId) (c0 : Int32) (c1 : Int32) (c2 : Int32) (zC : Int32) (h0 : Heap) (n0 : Nat) (Z0 : n0 ≤ h0.size) (P_E_u0 : Exa Z h0 u0 "java/lang/String") (P_F_u0_String_value : Fld Z h0 u0 "java/lang/String" "value" "[B" .null) (P_F_u0_String_coder : Fld Z h0 u0 "java/lang/String" "coder" "B" (.int (0 : Int32))) (P_V_u1 : Arv Z h0 u1 kA .char (3 : Int32) [(.int c0), (.int c1), (.int c2)] (.int (0 : Int32))) (neA : u0 ≠ u1) (hc0 : ¬ c0 < 0 ∧ ¬ (127 : Int32) < c0) (hc1 : ¬ c1 < 0 ∧ ¬ (127 : Int32) < c1) (hc2 : ¬ c2 < 0 ∧ ¬ (127 : Int32) < c2) (P_S_String_COMPACT_STRINGS : Sta Z h0 "java/lang/String" "COMPACT_STRINGS" "Z" (.int zC)) (hz : ¬ (zC = (0 : Int32))) (g_u0 : n0 ≤ u0) :
    own_MF l own_y4 (Jvm.Cond.code own_y4 jdk_42_method_3_code 2 none) ws ({ frames := 3, cells := 1, slots := 3, locals := 52 } : Room) #[(.ref u0), (.ref u1)] Z h0 (Q_rmI1_3 Z u0 u1 kA c0 c1 c2 zC h0 n0) := by
  refine MetFree.of_bodySF (plainFor_of_name pn_2) hisR ?_
  intro p e s m args below meth c s₁ Bd hml0 hP hK
  obtain ⟨rfl, hZ, hh⟩ := hP
  have hx := Bd.exec
  have hby := Bd.bytes
  have hml : c.maxLocals = 2 := hml0
  have hown : s.vm.findClass "java/lang/String" = some m.cls := findClass_of_methodNamed Bd.named
  have hnm := (name_of_methodNamed Bd.named Bd.method).1
  have X0 : Stand p l e ({ frames := 3, cells := 1, slots := 3, locals := 52 } : Room) s m #[(.ref u0), (.ref u1)] below meth c s₁ [] 0 0 := Stand.of_body Bd
  have e0 : s₁.heap = h0 := by rw [← hh, Bd.state]; rfl
  have N0 := Fr.nil n0
  have pre0 : ∀ t, Steps p.tables e below (s₁.setTop (mkF m 0 #[rv u0, rv u1] [])) t → Steps p.tables e below (s₁.setTop (entryFrame m #[(.ref u0), (.ref u1)] 2)) t := fun t k => castTop (ef_rmI1_3 m u0 u1) k
  obtain ⟨cl1, Ar1, qq1, S1, N1_, H1, G1⟩ := id P_V_u1
  obtain ⟨_, _, ⟨T2, L2, k2, n2⟩, -, X2, ⟨Lc2, hQ2, l2, y2, z2⟩, st2⟩ := X0.specialBack hx (y := own_y3) rfl hown (mvT hZ (own_g hw 13 rfl)) (mvT hZ (own_g hw 14 rfl)) (mvT hZ (own_g hw 16 rfl)) (by decide) (backOf (W := 0) (rmI4_3 l Z a0 hw [] u0 u1 kA c0 c1 c2 zC h0 n0 Z0 P_E_u0 P_F_u0_String_value P_F_u0_String_coder P_V_u1 neA hc0 hc1 hc2 P_S_String_COMPACT_STRINGS hz g_u0) hZ (own_g hw 16 rfl) (own_g hw 8 rfl) (by decide) (by decide)) (g := (mkF m 6 #[rv u0, rv u1] [.null, (.int (3 : Int32)), (.int (0 : Int32)), (.ref u1), (.ref u0)])) rfl (by rw [hml]; rfl) (Steps.refl _) (a := u0) (argsL := [(.ref u1), (.int (0 : Int32)), (.int (3 : Int32)), .null]) (rest := []) (lenOf pd___CIILjava_lang_Void__V rfl) rfl (by show 2 * 0 + _ ≤ _; exact Nat.le_of_eq rfl) (hb hby d2_6) (fun _ _ => ⟨rfl, e0, (by decide : 0 + 1 ≤ _), (by decide : 0 + 3 ≤ _)⟩)
  dsimp only [Pt.U, Pt.locs, Pt.cells, Pt.slots] at X2 l2 y2 z2 st2 hQ2
  subst l2 y2 z2
  obtain ⟨t_2, kt_2, rfl, N2q, K2, sx2_0, f3, f4, f5, f6, f7⟩ := hQ2
  have ot_2 : n0 ≤ t_2 := Nat.le_trans Z0 sx2_0
  have zt_2 : h0.size ≤ t_2 := Nat.le_trans (Keep.refl h0 [u0]).1 sx2_0
  have ne8 : u0 ≠ t_2 := Nat.ne_of_lt (Nat.lt_of_lt_of_le P_E_u0.lt sx2_0)
  have ne9 : u1 ≠ t_2 := Nat.ne_of_lt (Nat.lt_of_lt_of_le P_V_u1.lt sx2_0)
  have KK2 : Keep h0 T2.heap [u0] := Keep.trans (Keep.refl h0 [u0]) K2 (allS (Or.inl (List.mem_of_getElem? (i := 0) rfl)) all0)
  have N2 := Fr.app N0 N2q
  obtain ⟨fs, hr, hrun, hended, hW, hsame⟩ := X2.leave (v := none) (fun _ => rfl)
  refine ⟨_, _, pre0 _ ?_, hrun, hended, _, _, rfl, ?_, ⟨_, rfl⟩, hW, hsame.mono (by decide) (by decide)⟩
  · refine XS.aloadN X0.here hx rfl (hb hby d2_0) rfl rfl ?_
    refine XS.aloadN X0.here hx rfl (hb hby d2_1) rfl rfl ?_
    refine XS.iconst X0.here hx rfl (hb hby d2_2) ?_
    refine XS.aloadN X0.here hx rfl (hb hby d2_3) rfl rfl ?_
    refine X0.arraylength hx (by rw [e0]; exact Ar1.1) (State.isArrayOf_alike hZ.alike Ar1.2.1) (g := (mkF m 4 #[rv u0, rv u1] [(.ref u1), (.int (0 : Int32)), (.ref u1), (.ref u0)])) rfl rfl (hb hby d2_4) _ ?_
    rw [len_of S1 N1_]
    refine XS.aconstNull X0.here hx rfl (hb hby d2_5) ?_
    show Steps _ _ _ (s₁.setTop (mkF m 6 #[rv u0, rv u1] [.null, (.int (3 : Int32)), (.int (0 : Int32)), (.ref u1), (.ref u0)])) _
    refine st2.trans ?_
    show Steps _ _ _ (T2.setTop (mkF m 9 #[rv u0, rv u1] [])) _
    exact X2.returnOut hx Bd.returns (hb hby d2_9) hr
  · show Q_rmI1_3 Z u0 u1 kA c0 c1 c2 zC h0 n0 _ T2.heap _
    exact ⟨t_2, kt_2, rfl, N2, KK2, zt_2, f3, f4, f5, f6, f7⟩

theorem ef_rmC5_4 (m : MethodId) (x0 : Addr) (x1 : Int32) (x2 : Addr) (x3 : Int32) (x4 : Int32) : entryFrame m #[(.ref x0), (.int x1), (.ref x2), (.int x3), (.int x4)] 7 = mkF m 0 #[rv x0, iv x1, rv x2, iv x3, iv x4, .unset, .unset] [] := by first | (simp [entryFrame, mkF, argsToLocals, Value.category]; done) | rfl
def Q_rmC5_4 (Z : State) (u0 : Addr) (u2 : Addr) (kA : ClassId) (c0 : Int32) (c1 : Int32) (c2 : Int32) (c3 : Int32) (kB : ClassId) (d0 : Int32) (d1 : Int32) (d2 : Int32) (d3 : Int32) (h0 : Heap) (n0 : Nat) (v : Option Value) (h : Heap) (L : List Loc) : Prop := (v = (some (.int (4 : Int32))) ∧ Fr n0 L ∧ Keep h0 h [u2] ∧ Arv Z h u2 kB .byte (4 : Int32) [(.int c0), (.int c1), (.int c2), (.int c3)] (.int (0 : Int32)))
set_option maxRecDepth 65536 in
set_option maxHeartbeats 40000000 in
theorem rmC5_4 (l : Launch) (Z : State) (a0 : Array Value) (hw : ∀ d ∈ tables_1, d.before a0 Z = true) (ws : List Jvm.Cond) (u0 : Addr) (u2 : Addr) (kA : ClassId) (c0 : Int32) (c1 : Int32) (c2 : Int32) (c3 : Int32) (kB : ClassId) (d0 : Int32) (d1 : Int32) (d2 : Int32) (d3 : Int32) (h0 : Heap) (n0 : Nat) (Z0 : n0 ≤ h0.size) (P_V_u0 : Arv Z h0 u0 kA .char (4 : Int32) [(.int c0), (.int c1), (.int c2), (.int c3)] (.int (0 : Int32))) (P_V_u2 : Arv Z h0 u2 kB .byte (4 : Int32) [(.int d0), (.int d1), (.int d2), (.int d3)] (.int (0 : Int32))) (neA : u0 ≠ u2) (hc0 : ¬ c0 < 0 ∧ ¬ (127 : Int32) < c0) (hc1 : ¬ c1 < 0 ∧ ¬ (127 : Int32) < c1) (hc2 : ¬ c2 < 0 ∧ ¬ (127 : Int32) < c2) (hc3 : ¬ c3 < 0 ∧ ¬ (127 : Int32) < c3) (g_u2 : n0 ≤ u2) :
    own_MF l own_y0 (Jvm.Cond.code own_y0 jdk_52_method_21_code 7 (some .int)) ws ({ frames := 0, cells := 0, slots := 0, locals := 0 } : Room) #[(.ref u0), (.int (0 : Int32)), (.ref u2), (.int (0 : Int32)), (.int (4 : Int32))] Z h0 (Q_rmC5_4 Z u0 u2 kA c0 c1 c2 c3 kB d0 d1 d2 d3 h0 n0) := by
  refine MetFree.of_bodySF (plainFor_of_name pn_23) hisR ?_
  intro p e s m args below meth c s₁ Bd hml0 hP hK
  obtain ⟨rfl, hZ, hh⟩ := hP
  have hx := Bd.exec
  have hby := Bd.bytes
  have hml : c.maxLocals = 7 := hml0
  have hown : s.vm.findClass "java/lang/StringUTF16" = some m.cls := findClass_of_methodNamed Bd.named
  have hnm := (name_of_methodNamed Bd.named Bd.method).1
  have X0 : Stand p l e ({ frames := 0, cells := 0, slots := 0, locals := 0 } : Room) s m #[(.ref u0), (.int (0 : Int32)), (.ref u2), (.int (0 : Int32)), (.int (4 : Int32))] below meth c s₁ [] 0 0 := Stand.of_body Bd
  have e0 : s₁.heap = h0 := by rw [← hh, Bd.state]; rfl
  have N0 := Fr.nil n0
  have pre0 : ∀ t, Steps p.tables e below (s₁.setTop (mkF m 0 #[rv u0, iv (0 : Int32), rv u2, iv (0 : Int32), iv (4 : Int32), .unset, .unset] [])) t → Steps p.tables e below (s₁.setTop (entryFrame m #[(.ref u0), (.int (0 : Int32)), (.ref u2), (.int (0 : Int32)), (.int (4 : Int32))] 7)) t := fun t k => castTop (ef_rmC5_4 m u0 (0 : Int32) u2 (0 : Int32) (4 : Int32)) k
  obtain ⟨cl1, Ar1, qq1, S1, N1_, H1, G1⟩ := id P_V_u0
  have hin1 : ¬ ((0 : Int32) < 0 ∨ cl1.slots.size ≤ ((0 : Int32)).toNatClampNeg) := inb_of S1 ⟨by decide, by decide⟩
  have hat1 : cl1.slots[((0 : Int32)).toNatClampNeg]? = some (.int c0) := H1.at hin1 rfl
  obtain ⟨cl2, Ar2, qq2, S2, N2_, H2, G2⟩ := id P_V_u2
  have hin2 : ¬ ((0 : Int32) < 0 ∨ cl2.slots.size ≤ ((0 : Int32)).toNatClampNeg) := inb_of S2 ⟨by decide, by decide⟩
  obtain ⟨T3, h3, X3, e3, W3, st3⟩ := stB X0 hx hZ e0 Ar2 (j := (0 : Int32)) hin2 (g := (mkF m 31 #[rv u0, iv (0 : Int32), rv u2, iv (0 : Int32), iv (4 : Int32), iv (0 : Int32), iv c0] [(.int c0), (.int (0 : Int32)), (.ref u2)])) rfl rfl (hb hby d23_31)
  have V3 : Arv Z h3 u2 kB .byte (4 : Int32) [(.int c0), (.int d1), (.int d2), (.int d3)] (.int (0 : Int32)) := by have q_ := Arv.set Ar2 qq2 S2 N2_ H2 G2 (fits_nar_byte _) W3 0 rfl (Nat.le_of_ble_eq_true rfl); rw [own_n1 hc0] at q_; exact q_
  have N4 := Fr.snoc X3 N0 g_u2
  have K5 : Keep h0 h3 [u2] := (Keep.refl h0 [u2]).wr W3 (Or.inl (List.mem_of_getElem? (i := 0) rfl))
  have f6 := (P_V_u0.other W3 neA)
  obtain ⟨cl7, Ar7, qq7, S7, N7_, H7, G7⟩ := id f6
  have hin7 : ¬ ((1 : Int32) < 0 ∨ cl7.slots.size ≤ ((1 : Int32)).toNatClampNeg) := inb_of S7 ⟨by decide, by decide⟩
  have hat7 : cl7.slots[((1 : Int32)).toNatClampNeg]? = some (.int c1) := H7.at hin7 rfl
  obtain ⟨cl8, Ar8, qq8, S8, N8_, H8, G8⟩ := id V3
  have hin8 : ¬ ((1 : Int32) < 0 ∨ cl8.slots.size ≤ ((1 : Int32)).toNatClampNeg) := inb_of S8 ⟨by decide, by decide⟩
  obtain ⟨T9, h9, X9, e9, W9, st9⟩ := stB X3 hx hZ e3 Ar8 (j := (1 : Int32)) hin8 (g := (mkF m 31 #[rv u0, iv (1 : Int32), rv u2, iv (1 : Int32), iv (4 : Int32), iv (1 : Int32), iv c1] [(.int c1), (.int (1 : Int32)), (.ref u2)])) rfl rfl (hb hby d23_31)
  have V9 : Arv Z h9 u2 kB .byte (4 : Int32) [(.int c0), (.int c1), (.int d2), (.int d3)] (.int (0 : Int32)) := by have q_ := Arv.set Ar8 qq8 S8 N8_ H8 G8 (fits_nar_byte _) W9 1 rfl (Nat.le_of_ble_eq_true rfl); rw [own_n1 hc1] at q_; exact q_
  have N10 := Fr.snoc X9 N4 g_u2
  have K11 : Keep h0 h9 [u2] := K5.wr W9 (Or.inl (List.mem_of_getElem? (i := 0) rfl))
  have f12 := (f6.other W9 neA)
  obtain ⟨cl13, Ar13, qq13, S13, N13_, H13, G13⟩ := id f12
  have hin13 : ¬ ((2 : Int32) < 0 ∨ cl13.slots.size ≤ ((2 : Int32)).toNatClampNeg) := inb_of S13 ⟨by decide, by decide⟩
  have hat13 : cl13.slots[((2 : Int32)).toNatClampNeg]? = some (.int c2) := H13.at hin13 rfl
  obtain ⟨cl14, Ar14, qq14, S14, N14_, H14, G14⟩ := id V9
  have hin14 : ¬ ((2 : Int32) < 0 ∨ cl14.slots.size ≤ ((2 : Int32)).toNatClampNeg) := inb_of S14 ⟨by decide, by decide⟩
  obtain ⟨T15, h15, X15, e15, W15, st15⟩ := stB X9 hx hZ e9 Ar14 (j := (2 : Int32)) hin14 (g := (mkF m 31 #[rv u0, iv (2 : Int32), rv u2, iv (2 : Int32), iv (4 : Int32), iv (2 : Int32), iv c2] [(.int c2), (.int (2 : Int32)), (.ref u2)])) rfl rfl (hb hby d23_31)
  have V15 : Arv Z h15 u2 kB .byte (4 : Int32) [(.int c0), (.int c1), (.int c2), (.int d3)] (.int (0 : Int32)) := by have q_ := Arv.set Ar14 qq14 S14 N14_ H14 G14 (fits_nar_byte _) W15 2 rfl (Nat.le_of_ble_eq_true rfl); rw [own_n1 hc2] at q_; exact q_
  have N16 := Fr.snoc X15 N10 g_u2
  have K17 : Keep h0 h15 [u2] := K11.wr W15 (Or.inl (List.mem_of_getElem? (i := 0) rfl))
  have f18 := (f12.other W15 neA)
  obtain ⟨cl19, Ar19, qq19, S19, N19_, H19, G19⟩ := id f18
  have hin19 : ¬ ((3 : Int32) < 0 ∨ cl19.slots.size ≤ ((3 : Int32)).toNatClampNeg) := inb_of S19 ⟨by decide, by decide⟩
  have hat19 : cl19.slots[((3 : Int32)).toNatClampNeg]? = some (.int c3) := H19.at hin19 rfl
  obtain ⟨cl20, Ar20, qq20, S20, N20_, H20, G20⟩ := id V15
  have hin20 : ¬ ((3 : Int32) < 0 ∨ cl20.slots.size ≤ ((3 : Int32)).toNatClampNeg) := inb_of S20 ⟨by decide, by decide⟩
  obtain ⟨T21, h21, X21, e21, W21, st21⟩ := stB X15 hx hZ e15 Ar20 (j := (3 : Int32)) hin20 (g := (mkF m 31 #[rv u0, iv (3 : Int32), rv u2, iv (3 : Int32), iv (4 : Int32), iv (3 : Int32), iv c3] [(.int c3), (.int (3 : Int32)), (.ref u2)])) rfl rfl (hb hby d23_31)
  have V21 : Arv Z h21 u2 kB .byte (4 : Int32) [(.int c0), (.int c1), (.int c2), (.int c3)] (.int (0 : Int32)) := by have q_ := Arv.set Ar20 qq20 S20 N20_ H20 G20 (fits_nar_byte _) W21 3 rfl (Nat.le_of_ble_eq_true rfl); rw [own_n1 hc3] at q_; exact q_
  have N22 := Fr.snoc X21 N16 g_u2
  have K23 : Keep h0 h21 [u2] := K17.wr W21 (Or.inl (List.mem_of_getElem? (i := 0) rfl))
  obtain ⟨fs, hr, hrun, hended, hW, hsame⟩ := X21.leave (v := some (.int (4 : Int32))) (fun h => by rw [Bd.returns] at h; cases h)
  refine ⟨_, _, pre0 _ ?_, hrun, hended, _, _, rfl, ?_, ⟨_, rfl⟩, hW, hsame.mono (by decide) (by decide)⟩
  · refine XS.iconst X0.here hx rfl (hb hby d23_0) ?_
    refine XS.istore X0.here hx rfl (hb hby d23_1) rfl (l' := #[rv u0, iv (0 : Int32), rv u2, iv (0 : Int32), iv (4 : Int32), iv (0 : Int32), .unset]) rfl ?_
    refine XS.iload X0.here hx rfl (hb hby d23_3) rfl ?_
    refine XS.iload X0.here hx rfl (hb hby d23_5) rfl ?_
    refine XS.icmpNo X0.here hx rfl (hb hby d23_7) rfl (tlt (by decide : (0 : Int32) < (4 : Int32))).2.1 ?_
    refine XS.aloadN X0.here hx rfl (hb hby d23_10) rfl rfl ?_
    refine XS.iloadN X0.here hx rfl (hb hby d23_11) rfl ?_
    refine X0.caload hx (j := (0 : Int32)) (v := (.int c0)) (by rw [e0]; exact Ar1.1) (State.isArrayOf_alike hZ.alike Ar1.2.1) Ar1.2.2 hin1 hat1 (g := (mkF m 12 #[rv u0, iv (0 : Int32), rv u2, iv (0 : Int32), iv (4 : Int32), iv (0 : Int32), .unset] [(.int (0 : Int32)), (.ref u0)])) rfl rfl (hb hby d23_12) _ ?_
    refine XS.istore X0.here hx rfl (hb hby d23_13) rfl (l' := #[rv u0, iv (0 : Int32), rv u2, iv (0 : Int32), iv (4 : Int32), iv (0 : Int32), iv c0]) rfl ?_
    refine XS.iload X0.here hx rfl (hb hby d23_15) rfl ?_
    refine XS.sipush X0.here hx rfl (hb hby d23_17) ?_
    refine XS.icmpYes X0.here hx rfl (pc0 := 20) (pc' := 26) rfl (hb hby d23_20) rfl (flt (own_le hc0)).2.2.2 (by decide) (by decide) ?_
    refine XS.aloadN X0.here hx rfl (hb hby d23_26) rfl rfl ?_
    refine XS.iloadN X0.here hx rfl (hb hby d23_27) rfl ?_
    refine XS.iload X0.here hx rfl (hb hby d23_28) rfl ?_
    refine XS.i2b X0.here hx rfl (hb hby d23_30) rfl ?_
    show Steps _ _ _ (s₁.setTop (mkF m 31 #[rv u0, iv (0 : Int32), rv u2, iv (0 : Int32), iv (4 : Int32), iv (0 : Int32), iv c0] [(.int (c0.toInt8.toInt32)), (.int (0 : Int32)), (.ref u2)])) _
    rw [own_n1 hc0]
    refine st3 _ ?_
    refine XS.iinc X3.here hx rfl (hb hby d23_32) rfl (l' := #[rv u0, iv (1 : Int32), rv u2, iv (0 : Int32), iv (4 : Int32), iv (0 : Int32), iv c0]) rfl ?_
    refine XS.iinc X3.here hx rfl (hb hby d23_35) rfl (l' := #[rv u0, iv (1 : Int32), rv u2, iv (1 : Int32), iv (4 : Int32), iv (0 : Int32), iv c0]) rfl ?_
    refine XS.iinc X3.here hx rfl (hb hby d23_38) rfl (l' := #[rv u0, iv (1 : Int32), rv u2, iv (1 : Int32), iv (4 : Int32), iv (1 : Int32), iv c0]) rfl ?_
    refine XS.goto X3.here hx rfl (pc0 := 41) (pc' := 3) rfl (hb hby d23_41) (by decide) (by decide) ?_
    refine XS.iload X3.here hx rfl (hb hby d23_3) rfl ?_
    refine XS.iload X3.here hx rfl (hb hby d23_5) rfl ?_
    show Steps _ _ _ (T3.setTop (mkF m 7 #[rv u0, iv (1 : Int32), rv u2, iv (1 : Int32), iv (4 : Int32), iv (1 : Int32), iv c0] [(.int (4 : Int32)), (.int (1 : Int32))])) _
    refine XS.icmpNo X3.here hx rfl (hb hby d23_7) rfl (tlt (by decide : (1 : Int32) < (4 : Int32))).2.1 ?_
    refine XS.aloadN X3.here hx rfl (hb hby d23_10) rfl rfl ?_
    refine XS.iloadN X3.here hx rfl (hb hby d23_11) rfl ?_
    refine X3.caload hx (j := (1 : Int32)) (v := (.int c1)) (by rw [e3]; exact Ar7.1) (State.isArrayOf_alike hZ.alike Ar7.2.1) Ar7.2.2 hin7 hat7 (g := (mkF m 12 #[rv u0, iv (1 : Int32), rv u2, iv (1 : Int32), iv (4 : Int32), iv (1 : Int32), iv c0] [(.int (1 : Int32)), (.ref u0)])) rfl rfl (hb hby d23_12) _ ?_
    refine XS.istore X3.here hx rfl (hb hby d23_13) rfl (l' := #[rv u0, iv (1 : Int32), rv u2, iv (1 : Int32), iv (4 : Int32), iv (1 : Int32), iv c1]) rfl ?_
    refine XS.iload X3.here hx rfl (hb hby d23_15) rfl ?_
    refine XS.sipush X3.here hx rfl (hb hby d23_17) ?_
    refine XS.icmpYes X3.here hx rfl (pc0 := 20) (pc' := 26) rfl (hb hby d23_20) rfl (flt (own_le hc1)).2.2.2 (by decide) (by decide) ?_
    refine XS.aloadN X3.here hx rfl (hb hby d23_26) rfl rfl ?_
    refine XS.iloadN X3.here hx rfl (hb hby d23_27) rfl ?_
    refine XS.iload X3.here hx rfl (hb hby d23_28) rfl ?_
    refine XS.i2b X3.here hx rfl (hb hby d23_30) rfl ?_
    show Steps _ _ _ (T3.setTop (mkF m 31 #[rv u0, iv (1 : Int32), rv u2, iv (1 : Int32), iv (4 : Int32), iv (1 : Int32), iv c1] [(.int (c1.toInt8.toInt32)), (.int (1 : Int32)), (.ref u2)])) _
    rw [own_n1 hc1]
    refine st9 _ ?_
    refine XS.iinc X9.here hx rfl (hb hby d23_32) rfl (l' := #[rv u0, iv (2 : Int32), rv u2, iv (1 : Int32), iv (4 : Int32), iv (1 : Int32), iv c1]) rfl ?_
    refine XS.iinc X9.here hx rfl (hb hby d23_35) rfl (l' := #[rv u0, iv (2 : Int32), rv u2, iv (2 : Int32), iv (4 : Int32), iv (1 : Int32), iv c1]) rfl ?_
    refine XS.iinc X9.here hx rfl (hb hby d23_38) rfl (l' := #[rv u0, iv (2 : Int32), rv u2, iv (2 : Int32), iv (4 : Int32), iv (2 : Int32), iv c1]) rfl ?_
    refine XS.goto X9.here hx rfl (pc0 := 41) (pc' := 3) rfl (hb hby d23_41) (by decide) (by decide) ?_
    refine XS.iload X9.here hx rfl (hb hby d23_3) rfl ?_
    refine XS.iload X9.here hx rfl (hb hby d23_5) rfl ?_
    refine XS.icmpNo X9.here hx rfl (hb hby d23_7) rfl (tlt (by decide : (2 : Int32) < (4 : Int32))).2.1 ?_
    refine XS.aloadN X9.here hx rfl (hb hby d23_10) rfl rfl ?_
    refine XS.iloadN X9.here hx rfl (hb hby d23_11) rfl ?_
    refine X9.caload hx (j := (2 : Int32)) (v := (.int c2)) (by rw [e9]; exact Ar13.1) (State.isArrayOf_alike hZ.alike Ar13.2.1) Ar13.2.2 hin13 hat13 (g := (mkF m 12 #[rv u0, iv (2 : Int32), rv u2, iv (2 : Int32), iv (4 : Int32), iv (2 : Int32), iv c1] [(.int (2 : Int32)), (.ref u0)])) rfl rfl (hb hby d23_12) _ ?_
    refine XS.istore X9.here hx rfl (hb hby d23_13) rfl (l' := #[rv u0, iv (2 : Int32), rv u2, iv (2 : Int32), iv (4 : Int32), iv (2 : Int32), iv c2]) rfl ?_
    show Steps _ _ _ (T9.setTop (mkF m 15 #[rv u0, iv (2 : Int32), rv u2, iv (2 : Int32), iv (4 : Int32), iv (2 : Int32), iv c2] [])) _
    refine XS.iload X9.here hx rfl (hb hby d23_15) rfl ?_
    refine XS.sipush X9.here hx rfl (hb hby d23_17) ?_
    refine XS.icmpYes X9.here hx rfl (pc0 := 20) (pc' := 26) rfl (hb hby d23_20) rfl (flt (own_le hc2)).2.2.2 (by decide) (by decide) ?_
    refine XS.aloadN X9.here hx rfl (hb hby d23_26) rfl rfl ?_
    refine XS.iloadN X9.here hx rfl (hb hby d23_27) rfl ?_
    refine XS.iload X9.here hx rfl (hb hby d23_28) rfl ?_
    refine XS.i2b X9.here hx rfl (hb hby d23_30) rfl ?_
    show Steps _ _ _ (T9.setTop (mkF m 31 #[rv u0, iv (2 : Int32), rv u2, iv (2 : Int32), iv (4 : Int32), iv (2 : Int32), iv c2] [(.int (c2.toInt8.toInt32)), (.int (2 : Int32)), (.ref u2)])) _
    rw [own_n1 hc2]
    refine st15 _ ?_
    refine XS.iinc X15.here hx rfl (hb hby d23_32) rfl (l' := #[rv u0, iv (3 : Int32), rv u2, iv (2 : Int32), iv (4 : Int32), iv (2 : Int32), iv c2]) rfl ?_
    refine XS.iinc X15.here hx rfl (hb hby d23_35) rfl (l' := #[rv u0, iv (3 : Int32), rv u2, iv (3 : Int32), iv (4 : Int32), iv (2 : Int32), iv c2]) rfl ?_
    refine XS.iinc X15.here hx rfl (hb hby d23_38) rfl (l' := #[rv u0, iv (3 : Int32), rv u2, iv (3 : Int32), iv (4 : Int32), iv (3 : Int32), iv c2]) rfl ?_
    refine XS.goto X15.here hx rfl (pc0 := 41) (pc' := 3) rfl (hb hby d23_41) (by decide) (by decide) ?_
    refine XS.iload X15.here hx rfl (hb hby d23_3) rfl ?_
    refine XS.iload X15.here hx rfl (hb hby d23_5) rfl ?_
    refine XS.icmpNo X15.here hx rfl (hb hby d23_7) rfl (tlt (by decide : (3 : Int32) < (4 : Int32))).2.1 ?_
    refine XS.aloadN X15.here hx rfl (hb hby d23_10) rfl rfl ?_
    refine XS.iloadN X15.here hx rfl (hb hby d23_11) rfl ?_
    refine X15.caload hx (j := (3 : Int32)) (v := (.int c3)) (by rw [e15]; exact Ar19.1) (State.isArrayOf_alike hZ.alike Ar19.2.1) Ar19.2.2 hin19 hat19 (g := (mkF m 12 #[rv u0, iv (3 : Int32), rv u2, iv (3 : Int32), iv (4 : Int32), iv (3 : Int32), iv c2] [(.int (3 : Int32)), (.ref u0)])) rfl rfl (hb hby d23_12) _ ?_
    refine XS.istore X15.here hx rfl (hb hby d23_13) rfl (l' := #[rv u0, iv (3 : Int32), rv u2, iv (3 : Int32), iv (4 : Int32), iv (3 : Int32), iv c3]) rfl ?_
    refine XS.iload X15.here hx rfl (hb hby d23_15) rfl ?_
    refine XS.sipush X15.here hx rfl (hb hby d23_17) ?_
    refine XS.icmpYes X15.here hx rfl (pc0 := 20) (pc' := 26) rfl (hb hby d23_20) rfl (flt (own_le hc3)).2.2.2 (by decide) (by decide) ?_
    refine XS.aloadN X15.here hx rfl (hb hby d23_26) rfl rfl ?_
    refine XS.iloadN X15.here hx rfl (hb hby d23_27) rfl ?_
    show Steps _ _ _ (T15.setTop (mkF m 28 #[rv u0, iv (3 : Int32), rv u2, iv (3 : Int32), iv (4 : Int32), iv (3 : Int32), iv c3] [(.int (3 : Int32)), (.ref u2)])) _
    refine XS.iload X15.here hx rfl (hb hby d23_28) rfl ?_
    refine XS.i2b X15.here hx rfl (hb hby d23_30) rfl ?_
    show Steps _ _ _ (T15.setTop (mkF m 31 #[rv u0, iv (3 : Int32), rv u2, iv (3 : Int32), iv (4 : Int32), iv (3 : Int32), iv c3] [(.int (c3.toInt8.toInt32)), (.int (3 : Int32)), (.ref u2)])) _
    rw [own_n1 hc3]
    refine st21 _ ?_
    refine XS.iinc X21.here hx rfl (hb hby d23_32) rfl (l' := #[rv u0, iv (4 : Int32), rv u2, iv (3 : Int32), iv (4 : Int32), iv (3 : Int32), iv c3]) rfl ?_
    refine XS.iinc X21.here hx rfl (hb hby d23_35) rfl (l' := #[rv u0, iv (4 : Int32), rv u2, iv (4 : Int32), iv (4 : Int32), iv (3 : Int32), iv c3]) rfl ?_
    refine XS.iinc X21.here hx rfl (hb hby d23_38) rfl (l' := #[rv u0, iv (4 : Int32), rv u2, iv (4 : Int32), iv (4 : Int32), iv (4 : Int32), iv c3]) rfl ?_
    refine XS.goto X21.here hx rfl (pc0 := 41) (pc' := 3) rfl (hb hby d23_41) (by decide) (by decide) ?_
    refine XS.iload X21.here hx rfl (hb hby d23_3) rfl ?_
    refine XS.iload X21.here hx rfl (hb hby d23_5) rfl ?_
    refine XS.icmpYes X21.here hx rfl (pc0 := 7) (pc' := 44) rfl (hb hby d23_7) rfl (flt (by decide : ¬ ((4 : Int32) < (4 : Int32)))).2.1 (by decide) (by decide) ?_
    refine XS.iload X21.here hx rfl (hb hby d23_44) rfl ?_
    show Steps _ _ _ (T21.setTop (mkF m 46 #[rv u0, iv (4 : Int32), rv u2, iv (4 : Int32), iv (4 : Int32), iv (4 : Int32), iv c3] [(.int (4 : Int32))])) _
    exact retI X21 hx Bd.returns (hb hby d23_46) hr
  · show Q_rmC5_4 Z u0 u2 kA c0 c1 c2 c3 kB d0 d1 d2 d3 h0 n0 _ T21.heap _
    rw [e21]
    exact ⟨rfl, N22, K23, V21⟩

theorem ef_rmC3_4 (m : MethodId) (x0 : Addr) (x1 : Int32) (x2 : Int32) : entryFrame m #[(.ref x0), (.int x1), (.int x2)] 6 = mkF m 0 #[rv x0, iv x1, iv x2, .unset, .unset, .unset] [] := by first | (simp [entryFrame, mkF, argsToLocals, Value.category]; done) | rfl
def Q_rmC3_4 (Z : State) (u0 : Addr) (kA : ClassId) (c0 : Int32) (c1 : Int32) (c2 : Int32) (c3 : Int32) (h0 : Heap) (n0 : Nat) (v : Option Value) (h : Heap) (L : List Loc) : Prop := ∃ (t : Addr), ∃ (kt : ClassId), (v = (some (.ref t)) ∧ Fr n0 L ∧ Keep h0 h [] ∧ h0.size ≤ t ∧ Exa Z h t "[B" ∧ Arv Z h t kt .byte (4 : Int32) [(.int c0), (.int c1), (.int c2), (.int c3)] (.int (0 : Int32)))
set_option maxRecDepth 65536 in
set_option maxHeartbeats 40000000 in
theorem rmC3_4 (l : Launch) (Z : State) (a0 : Array Value) (hw : ∀ d ∈ tables_1, d.before a0 Z = true) (ws : List Jvm.Cond) (u0 : Addr) (kA : ClassId) (c0 : Int32) (c1 : Int32) (c2 : Int32) (c3 : Int32) (h0 : Heap) (n0 : Nat) (Z0 : n0 ≤ h0.size) (P_V_u0 : Arv Z h0 u0 kA .char (4 : Int32) [(.int c0), (.int c1), (.int c2), (.int c3)] (.int (0 : Int32))) (hc0 : ¬ c0 < 0 ∧ ¬ (127 : Int32) < c0) (hc1 : ¬ c1 < 0 ∧ ¬ (127 : Int32) < c1) (hc2 : ¬ c2 < 0 ∧ ¬ (127 : Int32) < c2) (hc3 : ¬ c3 < 0 ∧ ¬ (127 : Int32) < c3) :
    own_MF l own_y1 (Jvm.Cond.code own_y1 jdk_52_method_16_code 6 (some (.array .byte))) ws ({ frames := 1, cells := 1, slots := 4, locals := 18 } : Room) #[(.ref u0), (.int (0 : Int32)), (.int (4 : Int32))] Z h0 (Q_rmC3_4 Z u0 kA c0 c1 c2 c3 h0 n0) := by
  refine MetFree.of_bodySF (plainFor_of_name pn_22) hisR ?_
  intro p e s m args below meth c s₁ Bd hml0 hP hK
  obtain ⟨rfl, hZ, hh⟩ := hP
  have hx := Bd.exec
  have hby := Bd.bytes
  have hml : c.maxLocals = 6 := hml0
  have hown : s.vm.findClass "java/lang/StringUTF16" = some m.cls := findClass_of_methodNamed Bd.named
  have hnm := (name_of_methodNamed Bd.named Bd.method).1
  have X0 : Stand p l e ({ frames := 1, cells := 1, slots := 4, locals := 18 } : Room) s m #[(.ref u0), (.int (0 : Int32)), (.int (4 : Int32))] below meth c s₁ [] 0 0 := Stand.of_body Bd
  have e0 : s₁.heap = h0 := by rw [← hh, Bd.state]; rfl
  have N0 := Fr.nil n0
  have pre0 : ∀ t, Steps p.tables e below (s₁.setTop (mkF m 0 #[rv u0, iv (0 : Int32), iv (4 : Int32), .unset, .unset, .unset] [])) t → Steps p.tables e below (s₁.setTop (entryFrame m #[(.ref u0), (.int (0 : Int32)), (.int (4 : Int32))] 6)) t := fun t k => castTop (ef_rmC3_4 m u0 (0 : Int32) (4 : Int32)) k
  obtain ⟨T1, h1, k1, X1, e1, E1, A1, Q1, st1⟩ := newPE X0 hx hZ (own_g hw 21 rfl) e0 (g := (mkF m 1 #[rv u0, iv (0 : Int32), iv (4 : Int32), .unset, .unset, .unset] [(.int (4 : Int32))])) rfl (hb hby d22_1) rfl (by decide) (cap := 4) (by decide) (by decide) (by decide) (by decide) (ad := "[B") rfl
  obtain ⟨b1, g1⟩ : ∃ z, z = h0.size := ⟨_, rfl⟩
  rw [← g1] at A1 st1 Q1
  have ne2 : u0 ≠ b1 := Nat.ne_of_lt (Nat.lt_of_lt_of_le P_V_u0.lt (Nat.le_of_eq g1.symm))
  have o1 : n0 ≤ b1 := Nat.le_trans Z0 (Nat.le_of_eq g1.symm)
  have z1 : h0.size ≤ b1 := Nat.le_trans (Keep.refl h0 []).1 (Nat.le_of_eq g1.symm)
  have K1 : Keep h0 h1 [] := (Keep.refl h0 []).ext E1
  have V1 : Arv Z h1 b1 k1 .byte (4 : Int32) [(.int (0 : Int32)), (.int (0 : Int32)), (.int (0 : Int32)), (.int (0 : Int32))] (.int (0 : Int32)) := (Arv.new A1 (by decide)).pad (pad_rep [] (.int (0 : Int32)) 4)
  have f3 := (P_V_u0.ext E1)
  have f4 := (Nat.le_trans Z0 E1.1)
  obtain ⟨_, _, ⟨T5, L5, k5, n5⟩, -, X5, ⟨Lc5, hQ5, l5, y5, z5⟩, st5⟩ := Jvm.LawKit.callS X1 hx (y := own_y0) hown (mvT hZ (own_g hw 144 rfl)) (mvT hZ (own_g hw 145 rfl)) (mvT hZ (own_g hw 142 rfl)) (mvT hZ (own_g hw 146 rfl)) (by decide) (backOf (W := 0) (rmC5_4 l Z a0 hw [] u0 b1 kA c0 c1 c2 c3 k1 (0 : Int32) (0 : Int32) (0 : Int32) (0 : Int32) h1 n0 f4 f3 V1 ne2 hc0 hc1 hc2 hc3 o1) hZ (own_g hw 146 rfl) (own_g hw 142 rfl) (by decide) (by decide)) (g := (mkF m 9 #[rv u0, iv (0 : Int32), iv (4 : Int32), rv b1, .unset, .unset] [(.int (4 : Int32)), (.int (0 : Int32)), (.ref b1), (.int (0 : Int32)), (.ref u0)])) rfl (by rw [hml]; rfl) (argsL := [(.ref u0), (.int (0 : Int32)), (.ref b1), (.int (0 : Int32)), (.int (4 : Int32))]) (rest := []) (lenOf pd___CI_BII_I rfl) rfl (by show 2 * 0 + _ ≤ _; exact Nat.le_of_eq rfl) (hb hby d22_9) (fun _ _ => ⟨rfl, e1, (by decide : 1 + 0 ≤ _), (by decide : 4 + 0 ≤ _)⟩)
  dsimp only [Pt.U, Pt.locs, Pt.cells, Pt.slots] at X5 l5 y5 z5 st5 hQ5
  subst l5 y5 z5
  obtain ⟨rfl, N5q, K5, f6⟩ := hQ5
  have KK5 : Keep h0 T5.heap [] := Keep.trans K1 K5 (allS (Or.inr z1) all0)
  have N5 := Fr.app N0 N5q
  obtain ⟨fs, hr, hrun, hended, hW, hsame⟩ := X5.leave (v := some (.ref b1)) (fun h => by rw [Bd.returns] at h; cases h)
  have f7 := (Q1.keep K5)
  refine ⟨_, _, pre0 _ ?_, hrun, hended, _, _, rfl, ?_, ⟨_, rfl⟩, hW, hsame.mono (by decide) (by decide)⟩
  · refine XS.iloadN X0.here hx rfl (hb hby d22_0) rfl ?_
    refine st1 _ ?_
    refine XS.astoreN X1.here hx rfl (hb hby d22_3) rfl rfl (l' := #[rv u0, iv (0 : Int32), iv (4 : Int32), rv b1, .unset, .unset]) rfl ?_
    refine XS.aloadN X1.here hx rfl (hb hby d22_4) rfl rfl ?_
    refine XS.iloadN X1.here hx rfl (hb hby d22_5) rfl ?_
    refine XS.aloadN X1.here hx rfl (hb hby d22_6) rfl rfl ?_
    refine XS.iconst X1.here hx rfl (hb hby d22_7) ?_
    refine XS.iloadN X1.here hx rfl (hb hby d22_8) rfl ?_
    show Steps _ _ _ (T1.setTop (mkF m 9 #[rv u0, iv (0 : Int32), iv (4 : Int32), rv b1, .unset, .unset] [(.int (4 : Int32)), (.int (0 : Int32)), (.ref b1), (.int (0 : Int32)), (.ref u0)])) _
    refine st5 _ ?_
    refine XS.istore X5.here hx rfl (hb hby d22_12) rfl (l' := #[rv u0, iv (0 : Int32), iv (4 : Int32), rv b1, iv (4 : Int32), .unset]) rfl ?_
    refine XS.iload X5.here hx rfl (hb hby d22_14) rfl ?_
    refine XS.iloadN X5.here hx rfl (hb hby d22_16) rfl ?_
    refine XS.icmpYes X5.here hx rfl (pc0 := 17) (pc' := 57) rfl (hb hby d22_17) rfl (teq (by decide : (4 : Int32) = (4 : Int32))).1 (by decide) (by decide) ?_
    refine XS.aloadN X5.here hx rfl (hb hby d22_57) rfl rfl ?_
    show Steps _ _ _ (T5.setTop (mkF m 58 #[rv u0, iv (0 : Int32), iv (4 : Int32), rv b1, iv (4 : Int32), .unset] [(.ref b1)])) _
    exact retOut X5 hx Bd.returns rfl (Or.inr (Or.inr (Or.inr (Or.inr ⟨rfl, rfl, rfl⟩)))) (hb hby d22_58) hr
  · show Q_rmC3_4 Z u0 kA c0 c1 c2 c3 h0 n0 _ T5.heap _
    exact ⟨b1, k1, rfl, N5, KK5, z1, f7, f6⟩

theorem ef_rmCF4 (m : MethodId) (x0 : Addr) (x1 : Int32) : entryFrame m #[(.ref x0), (.int x1)] 2 = mkF m 0 #[rv x0, iv x1] [] := by first | (simp [entryFrame, mkF, argsToLocals, Value.category]; done) | rfl
set_option maxRecDepth 65536 in
set_option maxHeartbeats 40000000 in
theorem rmCF4 (l : Launch) (Z : State) (a0 : Array Value) (hw : ∀ d ∈ tables_1, d.before a0 Z = true) (ws : List Jvm.Cond) (u0 : Addr) (kt : ClassId) (vs : List Value) (h0 : Heap) (n0 : Nat) (Z0 : n0 ≤ h0.size) (P_G_u0 : Arv Z h0 u0 kt .byte (4 : Int32) vs (.int 0)) :
    own_MF l own_y2 (Jvm.Cond.code own_y2 jdk_52_method_15_code 2 (some .byte)) ws ({ frames := 0, cells := 0, slots := 0, locals := 0 } : Room) #[(.ref u0), (.int (4 : Int32))] Z h0 (own_QP (some (.int (0 : Int32))) h0 n0) := by
  refine MetFree.of_bodySF (plainFor_of_name pn_24) hisR ?_
  intro p e s m args below meth c s₁ Bd hml0 hP hK
  obtain ⟨rfl, hZ, hh⟩ := hP
  have hx := Bd.exec
  have hby := Bd.bytes
  have hml : c.maxLocals = 2 := hml0
  have hown : s.vm.findClass "java/lang/StringUTF16" = some m.cls := findClass_of_methodNamed Bd.named
  have hnm := (name_of_methodNamed Bd.named Bd.method).1
  have X0 : Stand p l e ({ frames := 0, cells := 0, slots := 0, locals := 0 } : Room) s m #[(.ref u0), (.int (4 : Int32))] below meth c s₁ [] 0 0 := Stand.of_body Bd
  have e0 : s₁.heap = h0 := by rw [← hh, Bd.state]; rfl
  have N0 := Fr.nil n0
  have pre0 : ∀ t, Steps p.tables e below (s₁.setTop (mkF m 0 #[rv u0, iv (4 : Int32)] [])) t → Steps p.tables e below (s₁.setTop (entryFrame m #[(.ref u0), (.int (4 : Int32))] 2)) t := fun t k => castTop (ef_rmCF4 m u0 (4 : Int32)) k
  obtain ⟨cl1, Ar1, qq1, S1, N1_, H1, G1⟩ := id P_G_u0
  obtain ⟨fs, hr, hrun, hended, hW, hsame⟩ := X0.leave (v := some (.int (0 : Int32))) (fun h => by rw [Bd.returns] at h; cases h)
  refine ⟨_, _, pre0 _ ?_, hrun, hended, _, _, rfl, ?_, ⟨_, rfl⟩, hW, hsame.mono (by decide) (by decide)⟩
  · refine XS.iloadN X0.here hx rfl (hb hby d24_0) rfl ?_
    refine XS.aloadN X0.here hx rfl (hb hby d24_1) rfl rfl ?_
    refine X0.arraylength hx (by rw [e0]; exact Ar1.1) (State.isArrayOf_alike hZ.alike Ar1.2.1) (g := (mkF m 2 #[rv u0, iv (4 : Int32)] [(.ref u0), (.int (4 : Int32))])) rfl rfl (hb hby d24_2) _ ?_
    rw [len_of S1 N1_]
    refine XS.isub X0.here hx rfl (hb hby d24_3) rfl ?_
    refine XS.bipush X0.here hx rfl (hb hby d24_4) ?_
    refine XS.iushr X0.here hx rfl (hb hby d24_6) rfl ?_
    show Steps _ _ _ (s₁.setTop (mkF m 7 #[rv u0, iv (4 : Int32)] [(.int (((0 : Int32).toUInt32 >>> ((31 : Int32) &&& 31).toUInt32).toInt32))])) _
    rw [(by decide : (((0 : Int32).toUInt32 >>> ((31 : Int32) &&& 31).toUInt32).toInt32) = (0 : Int32))]
    refine XS.i2b X0.here hx rfl (hb hby d24_7) rfl ?_
    show Steps _ _ _ (s₁.setTop (mkF m 8 #[rv u0, iv (4 : Int32)] [(.int ((0 : Int32).toInt8.toInt32))])) _
    rw [(by decide : ((0 : Int32).toInt8.toInt32) = (0 : Int32))]
    show Steps _ _ _ (s₁.setTop (mkF m 8 #[rv u0, iv (4 : Int32)] [(.int (0 : Int32))])) _
    exact retN X0 hx (t := .byte) Bd.returns (by simp) (hb hby d24_8) hr
  · show own_QP (some (.int (0 : Int32))) h0 n0 _ s₁.heap _
    rw [e0]
    exact ⟨rfl, N0, rfl⟩

theorem ef_rmI4_4 (m : MethodId) (x0 : Addr) (x1 : Addr) (x2 : Int32) (x3 : Int32) : entryFrame m #[(.ref x0), (.ref x1), (.int x2), (.int x3), .null] 6 = mkF m 0 #[rv x0, rv x1, iv x2, iv x3, .val .null, .unset] [] := by first | (simp [entryFrame, mkF, argsToLocals, Value.category]; done) | rfl
def Q_rmI4_4 (Z : State) (u0 : Addr) (u1 : Addr) (kA : ClassId) (c0 : Int32) (c1 : Int32) (c2 : Int32) (c3 : Int32) (zC : Int32) (h0 : Heap) (n0 : Nat) (v : Option Value) (h : Heap) (L : List Loc) : Prop := ∃ (t : Addr), ∃ (kt : ClassId), (v = none ∧ Fr n0 L ∧ Keep h0 h [u0] ∧ h0.size ≤ t ∧ Exa Z h u0 "java/lang/String" ∧ Fld Z h u0 "java/lang/String" "value" "[B" (.ref t) ∧ Fld Z h u0 "java/lang/String" "coder" "B" (.int (0 : Int32)) ∧ Exa Z h t "[B" ∧ Arv Z h t kt .byte (4 : Int32) [(.int c0), (.int c1), (.int c2), (.int c3)] (.int (0 : Int32)))
set_option maxRecDepth 65536 in
set_option maxHeartbeats 40000000 in
theorem rmI4_4 (l : Launch) (Z : State) (a0 : Array Value) (hw : ∀ d ∈ tables_1, d.before a0 Z = true) (ws : List Jvm.Cond) (u0 : Addr) (u1 : Addr) (kA : ClassId) (c0 : Int32) (c1 : Int32) (c2 : Int32) (c3 : Int32) (zC : Int32) (h0 : Heap) (n0 : Nat) (Z0 : n0 ≤ h0.size) (P_E_u0 : Exa Z h0 u0 "java/lang/String") (P_F_u0_String_value : Fld Z h0 u0 "java/lang/String" "value" "[B" .null) (P_F_u0_String_coder : Fld Z h0 u0 "java/lang/String" "coder" "B" (.int (0 : Int32))) (P_V_u1 : Arv Z h0 u1 kA .char (4 : Int32) [(.int c0), (.int c1), (.int c2), (.int c3)] (.int (0 : Int32))) (neA : u0 ≠ u1) (hc0 : ¬ c0 < 0 ∧ ¬ (127 : Int32) < c0) (hc1 : ¬ c1 < 0 ∧ ¬ (127 : Int32) < c1) (hc2 : ¬ c2 < 0 ∧ ¬ (127 : Int32) < c2) (hc3 : ¬ c3 < 0 ∧ ¬ (127 : Int32) < c3) (P_S_String_COMPACT_STRINGS : Sta Z h0 "java/lang/String" "COMPACT_STRINGS" "Z" (.int zC)) (hz : ¬ (zC = (0 : Int32))) (g_u0 : n0 ≤ u0) :
    own_MF l own_y3 (Jvm.Cond.code own_y3 jdk_42_method_149_code 6 none) ws ({ frames := 2, cells := 1, slots := 4, locals := 35 } : Room) #[(.ref u0), (.ref u1), (.int (0 : Int32)), (.int (4 : Int32)), .null] Z h0 (Q_rmI4_4 Z u0 u1 kA c0 c1 c2 c3 zC h0 n0) := by
  refine MetFree.of_bodySF (plainFor_of_name pn_3) hisR ?_
  intro p e s m args below meth c s₁ Bd hml0 hP hK
  obtain ⟨rfl, hZ, hh⟩ := hP
  have hx := Bd.exec
  have hby := Bd.bytes
  have hml : c.maxLocals = 6 := hml0
  have hown : s.vm.findClass "java/lang/String" = some m.cls := findClass_of_methodNamed Bd.named
  have hnm := (name_of_methodNamed Bd.named Bd.method).1
  have X0 : Stand p l e ({ frames := 2, cells := 1, slots := 4, locals := 35 } : Room) s m #[(.ref u0), (.ref u1), (.int (0 : Int32)), (.int (4 : Int32)), .null] below meth c s₁ [] 0 0 := Stand.of_body Bd
  have e0 : s₁.heap = h0 := by rw [← hh, Bd.state]; rfl
  have N0 := Fr.nil n0
  have pre0 : ∀ t, Steps p.tables e below (s₁.setTop (mkF m 0 #[rv u0, rv u1, iv (0 : Int32), iv (4 : Int32), .val .null, .unset] [])) t → Steps p.tables e below (s₁.setTop (entryFrame m #[(.ref u0), (.ref u1), (.int (0 : Int32)), (.int (4 : Int32)), .null] 6)) t := fun t k => castTop (ef_rmI4_4 m u0 u1 (0 : Int32) (4 : Int32)) k
  obtain ⟨T1, X1, e1, st1⟩ := initO X0 hx hZ hown (own_g hw 17 rfl) (own_g hw 18 rfl) (own_g hw 19 rfl) e0 (g := (mkF m 1 #[rv u0, rv u1, iv (0 : Int32), iv (4 : Int32), .val .null, .unset] [(.ref u0)])) rfl (by rw [hml]; rfl) rfl (hb hby d3_1) (by decide) (W := 0) (by show 2 * 0 + _ ≤ _; exact Nat.le_of_eq rfl) (by decide)
  obtain ⟨T2, X2, e2, st2⟩ := getS2 X1 hx hZ hown (host := "") (Or.inl (own_g hw 49 rfl)) Via.refl e1 P_S_String_COMPACT_STRINGS (g := (mkF m 27 #[rv u0, rv u1, iv (0 : Int32), iv (4 : Int32), .val .null, .unset] [])) rfl (hb hby d3_27)
  obtain ⟨_, _, ⟨T3, L3, k3, n3⟩, -, X3, ⟨Lc3, hQ3, l3, y3, z3⟩, st3⟩ := Jvm.LawKit.callS X2 hx (y := own_y1) hown (mvT hZ (own_g hw 140 rfl)) (mvT hZ (own_g hw 141 rfl)) (mvT hZ (own_g hw 142 rfl)) (mvT hZ (own_g hw 143 rfl)) (by decide) (backOf (W := 0) (rmC3_4 l Z a0 hw [] u1 kA c0 c1 c2 c3 h0 n0 Z0 P_V_u1 hc0 hc1 hc2 hc3) hZ (own_g hw 143 rfl) (own_g hw 142 rfl) (by decide) (by decide)) (g := (mkF m 36 #[rv u0, rv u1, iv (0 : Int32), iv (4 : Int32), .val .null, .unset] [(.int (4 : Int32)), (.int (0 : Int32)), (.ref u1)])) rfl (by rw [hml]; rfl) (argsL := [(.ref u1), (.int (0 : Int32)), (.int (4 : Int32))]) (rest := []) (lenOf pd___CII__B rfl) rfl (by show 2 * 0 + _ ≤ _; exact Nat.le_of_eq rfl) (hb hby d3_36) (fun _ _ => ⟨rfl, e2, (by decide : 0 + 1 ≤ _), (by decide : 0 + 4 ≤ _)⟩)
  dsimp only [Pt.U, Pt.locs, Pt.cells, Pt.slots] at X3 l3 y3 z3 st3 hQ3
  subst l3 y3 z3
  obtain ⟨t_3, kt_3, rfl, N3q, K3, sx3_0, f4, f5⟩ := hQ3
  have ot_3 : n0 ≤ t_3 := Nat.le_trans Z0 sx3_0
  have zt_3 : h0.size ≤ t_3 := Nat.le_trans (Keep.refl h0 [u0]).1 sx3_0
  have ne6 : u0 ≠ t_3 := Nat.ne_of_lt (Nat.lt_of_lt_of_le P_E_u0.lt sx3_0)
  have ne7 : u1 ≠ t_3 := Nat.ne_of_lt (Nat.lt_of_lt_of_le P_V_u1.lt sx3_0)
  have KK3 : Keep h0 T3.heap [u0] := Keep.trans (Keep.refl h0 [u0]) K3 all0
  have N3 := Fr.app N0 N3q
  have f8 := (Nat.le_trans Z0 K3.1)
  obtain ⟨_, _, ⟨T9, L9, k9, n9⟩, -, X9, ⟨Lc9, hQ9, l9, y9, z9⟩, st9⟩ := Jvm.LawKit.callS X3 hx (y := own_y2) hown (mvT hZ (own_g hw 147 rfl)) (mvT hZ (own_g hw 148 rfl)) (mvT hZ (own_g hw 142 rfl)) (mvT hZ (own_g hw 149 rfl)) (by decide) (backOf (W := 1) (rmCF4 l Z a0 hw [] t_3 kt_3 [(.int c0), (.int c1), (.int c2), (.int c3)] T3.heap n0 f8 f5) hZ (own_g hw 149 rfl) (own_g hw 142 rfl) (by decide) (by decide)) (g := (mkF m 45 #[rv u0, rv u1, iv (0 : Int32), iv (4 : Int32), .val .null, rv t_3] [(.int (4 : Int32)), (.ref t_3), (.ref u0)])) rfl (by rw [hml]; rfl) (argsL := [(.ref t_3), (.int (4 : Int32))]) (rest := [(.ref u0)]) (lenOf pd___BI_B rfl) rfl (by show 2 * 0 + _ ≤ _; exact Nat.le_of_eq rfl) (hb hby d3_45) (fun _ _ => ⟨rfl, rfl, (by decide : 1 + 0 ≤ _), (by decide : 4 + 0 ≤ _)⟩)
  dsimp only [Pt.U, Pt.locs, Pt.cells, Pt.slots] at X9 l9 y9 z9 st9 hQ9
  subst l9 y9 z9
  obtain ⟨rfl, N9q, e9⟩ := hQ9
  have N9 := Fr.app N3 N9q
  have f10 := (P_E_u0.keep K3)
  have f11 := (P_F_u0_String_coder.keep K3 nin0)
  obtain ⟨T12, h12, X12, e12, W12, st12⟩ := putFN X9 hx hZ hown (own_g hw 27 rfl) Via.refl e9 f11 f10 (Or.inr ⟨(own_g hw 23 rfl), rfl, hnm⟩) (own_g hw 7 rfl) (ty := .byte) (v' := (.int (0 : Int32))) (by decide) rfl rfl (g := (mkF m 48 #[rv u0, rv u1, iv (0 : Int32), iv (4 : Int32), .val .null, rv t_3] [(.int (0 : Int32)), (.ref u0)])) rfl rfl (hb hby d3_48)
  have f12_ : Fld Z h12 u0 "java/lang/String" "coder" "B" (.int (0 : Int32)) := f11.same W12
  have N13 := Fr.snoc X12 N9 g_u0
  have K14 : Keep h0 h12 [u0] := KK3.wr W12 (Or.inl (List.mem_of_getElem? (i := 0) rfl))
  have f15 := (f10.wr W12)
  have f16 := ((P_F_u0_String_value.keep K3 nin0).other W12 (Or.inr (slot_ne (Or.inr (own_g hw 22 rfl)) (Or.inr (own_g hw 23 rfl)) (by decide) (t := (.array .byte)) (t' := .byte) (by decide) (by decide))))
  obtain ⟨T17, h17, X17, e17, W17, st17⟩ := putF X12 hx hZ hown (host := "") (Or.inl (own_g hw 26 rfl)) Via.refl e12 f16 f15 (Or.inr ⟨(own_g hw 22 rfl), rfl, hnm⟩) (own_g hw 7 rfl) (ty := (.array .byte)) (by decide) rfl rfl (g := (mkF m 54 #[rv u0, rv u1, iv (0 : Int32), iv (4 : Int32), .val .null, rv t_3] [(.ref t_3), (.ref u0)])) rfl rfl (hb hby d3_54)
  have f17_ : Fld Z h17 u0 "java/lang/String" "value" "[B" (.ref t_3) := f16.same W17
  have N18 := Fr.snoc X17 N13 g_u0
  have K19 : Keep h0 h17 [u0] := K14.wr W17 (Or.inl (List.mem_of_getElem? (i := 0) rfl))
  obtain ⟨fs, hr, hrun, hended, hW, hsame⟩ := X17.leave (v := none) (fun _ => rfl)
  have f20 := (f15.wr W17)
  have f21 := (f12_.other W17 (Or.inr (slot_ne (Or.inr (own_g hw 23 rfl)) (Or.inr (own_g hw 22 rfl)) (by decide) (t := .byte) (t' := (.array .byte)) (by decide) (by decide))))
  have f22 := ((f4.wr W12).wr W17)
  have f23 := ((f5.other W12 (Ne.symm ne6)).other W17 (Ne.symm ne6))
  refine ⟨_, _, pre0 _ ?_, hrun, hended, _, _, rfl, ?_, ⟨_, rfl⟩, hW, hsame.mono (by decide) (by decide)⟩
  · refine XS.aloadN X0.here hx rfl (hb hby d3_0) rfl rfl ?_
    show Steps _ _ _ (s₁.setTop (mkF m 1 #[rv u0, rv u1, iv (0 : Int32), iv (4 : Int32), .val .null, .unset] [(.ref u0)])) _
    refine st1 _ ?_
    refine XS.iloadN X1.here hx rfl (hb hby d3_4) rfl ?_
    refine XS.ifYes X1.here hx rfl (pc0 := 5) (pc' := 27) rfl (hb hby d3_5) rfl ((if0 _ _).trans (feq (by decide : ¬ ((4 : Int32) = (0 : Int32)))).2) (by decide) (by decide) ?_
    refine st2 _ ?_
    refine XS.ifNo X2.here hx rfl (hb hby d3_30) rfl ((if0 _ _).trans (feq hz).1) ?_
    refine XS.aloadN X2.here hx rfl (hb hby d3_33) rfl rfl ?_
    refine XS.iloadN X2.here hx rfl (hb hby d3_34) rfl ?_
    refine XS.iloadN X2.here hx rfl (hb hby d3_35) rfl ?_
    show Steps _ _ _ (T2.setTop (mkF m 36 #[rv u0, rv u1, iv (0 : Int32), iv (4 : Int32), .val .null, .unset] [(.int (4 : Int32)), (.int (0 : Int32)), (.ref u1)])) _
    refine st3 _ ?_
    refine XS.astore X3.here hx rfl (hb hby d3_39) rfl rfl (l' := #[rv u0, rv u1, iv (0 : Int32), iv (4 : Int32), .val .null, rv t_3]) rfl ?_
    refine XS.aloadN X3.here hx rfl (hb hby d3_41) rfl rfl ?_
    refine XS.aload X3.here hx rfl (hb hby d3_42) rfl rfl ?_
    refine XS.iloadN X3.here hx rfl (hb hby d3_44) rfl ?_
    show Steps _ _ _ (T3.setTop (mkF m 45 #[rv u0, rv u1, iv (0 : Int32), iv (4 : Int32), .val .null, rv t_3] [(.int (4 : Int32)), (.ref t_3), (.ref u0)])) _
    refine st9 _ ?_
    refine st12 _ ?_
    refine XS.aloadN X12.here hx rfl (hb hby d3_51) rfl rfl ?_
    refine XS.aload X12.here hx rfl (hb hby d3_52) rfl rfl ?_
    refine st17 _ ?_
    show Steps _ _ _ (T17.setTop (mkF m 57 #[rv u0, rv u1, iv (0 : Int32), iv (4 : Int32), .val .null, rv t_3] [])) _
    exact X17.returnOut hx Bd.returns (hb hby d3_57) hr
  · show Q_rmI4_4 Z u0 u1 kA c0 c1 c2 c3 zC h0 n0 _ T17.heap _
    rw [e17]
    exact ⟨t_3, kt_3, rfl, N18, K19, zt_3, f20, f17_, f21, f22, f23⟩

theorem ef_rmI1_4 (m : MethodId) (x0 : Addr) (x1 : Addr) : entryFrame m #[(.ref x0), (.ref x1)] 2 = mkF m 0 #[rv x0, rv x1] [] := by first | (simp [entryFrame, mkF, argsToLocals, Value.category]; done) | rfl
def Q_rmI1_4 (Z : State) (u0 : Addr) (u1 : Addr) (kA : ClassId) (c0 : Int32) (c1 : Int32) (c2 : Int32) (c3 : Int32) (zC : Int32) (h0 : Heap) (n0 : Nat) (v : Option Value) (h : Heap) (L : List Loc) : Prop := ∃ (t : Addr), ∃ (kt : ClassId), (v = none ∧ Fr n0 L ∧ Keep h0 h [u0] ∧ h0.size ≤ t ∧ Exa Z h u0 "java/lang/String" ∧ Fld Z h u0 "java/lang/String" "value" "[B" (.ref t) ∧ Fld Z h u0 "java/lang/String" "coder" "B" (.int (0 : Int32)) ∧ Exa Z h t "[B" ∧ Arv Z h t kt .byte (4 : Int32) [(.int c0), (.int c1), (.int c2), (.int c3)] (.int (0 : Int32)))
set_option maxRecDepth 65536 in
set_option maxHeartbeats 40000000 in
theorem rmI1_4 (l : Launch) (Z : State) (a0 : Array Value) (hw : ∀ d ∈ tables_1, d.before a0 Z = true) (ws : List Jvm.Cond) (u0 : Addr) (u1 : Addr) (kA : ClassId) (c0 : Int32) (c1 : Int32) (c2 : Int32) (c3 : Int32) (zC : Int32) (h0 : Heap) (n0 : Nat) (Z0 : n0 ≤ h0.size) (P_E_u0 : Exa Z h0 u0 "java/lang/String") (P_F_u0_String_value : Fld Z h0 u0 "java/lang/String" "value" "[B" .null) (P_F_u0_String_coder : Fld Z h0 u0 "java/lang/String" "coder" "B" (.int (0 : Int32))) (P_V_u1 : Arv Z h0 u1 kA .char (4 : Int32) [(.int c0), (.int c1), (.int c2), (.int c3)] (.int (0 : Int32))) (neA : u0 ≠ u1) (hc0 : ¬ c0 < 0 ∧ ¬ (127 : Int32) < c0) (hc1 : ¬ c1 < 0 ∧ ¬ (127 : Int32) < c1) (hc2 : ¬ c2 < 0 ∧ ¬ (127 : Int32) < c2) (hc3 : ¬ c3 < 0 ∧ ¬ (127 : Int32) < c3) (P_S_String_COMPACT_STRINGS : Sta Z h0 "java/lang/String" "COMPACT_STRINGS" "Z" (.int zC)) (hz : ¬ (zC = (0 : Int32))) (g_u0 : n0 ≤ u0) :
    own_MF l own_y4 (Jvm.Cond.code own_y4 jdk_42_method_3_code 2 none) ws ({ frames := 3, cells := 1, slots := 4, locals := 52 } : Room) #[(.ref u0), (.ref u1)] Z h0 (Q_rmI1_4 Z u0 u1 kA c0 c1 c2 c3 zC h0 n0) := by
  refine MetFree.of_bodySF (plainFor_of_name pn_2) hisR ?_
  intro p e s m args below meth c s₁ Bd hml0 hP hK
  obtain ⟨rfl, hZ, hh⟩ := hP
  have hx := Bd.exec
  have hby := Bd.bytes
  have hml : c.maxLocals = 2 := hml0
  have hown : s.vm.findClass "java/lang/String" = some m.cls := findClass_of_methodNamed Bd.named
  have hnm := (name_of_methodNamed Bd.named Bd.method).1
  have X0 : Stand p l e ({ frames := 3, cells := 1, slots := 4, locals := 52 } : Room) s m #[(.ref u0), (.ref u1)] below meth c s₁ [] 0 0 := Stand.of_body Bd
  have e0 : s₁.heap = h0 := by rw [← hh, Bd.state]; rfl
  have N0 := Fr.nil n0
  have pre0 : ∀ t, Steps p.tables e below (s₁.setTop (mkF m 0 #[rv u0, rv u1] [])) t → Steps p.tables e below (s₁.setTop (entryFrame m #[(.ref u0), (.ref u1)] 2)) t := fun t k => castTop (ef_rmI1_4 m u0 u1) k
  obtain ⟨cl1, Ar1, qq1, S1, N1_, H1, G1⟩ := id P_V_u1
  obtain ⟨_, _, ⟨T2, L2, k2, n2⟩, -, X2, ⟨Lc2, hQ2, l2, y2, z2⟩, st2⟩ := X0.specialBack hx (y := own_y3) rfl hown (mvT hZ (own_g hw 13 rfl)) (mvT hZ (own_g hw 14 rfl)) (mvT hZ (own_g hw 16 rfl)) (by decide) (backOf (W := 0) (rmI4_4 l Z a0 hw [] u0 u1 kA c0 c1 c2 c3 zC h0 n0 Z0 P_E_u0 P_F_u0_String_value P_F_u0_String_coder P_V_u1 neA hc0 hc1 hc2 hc3 P_S_String_COMPACT_STRINGS hz g_u0) hZ (own_g hw 16 rfl) (own_g hw 8 rfl) (by decide) (by decide)) (g := (mkF m 6 #[rv u0, rv u1] [.null, (.int (4 : Int32)), (.int (0 : Int32)), (.ref u1), (.ref u0)])) rfl (by rw [hml]; rfl) (Steps.refl _) (a := u0) (argsL := [(.ref u1), (.int (0 : Int32)), (.int (4 : Int32)), .null]) (rest := []) (lenOf pd___CIILjava_lang_Void__V rfl) rfl (by show 2 * 0 + _ ≤ _; exact Nat.le_of_eq rfl) (hb hby d2_6) (fun _ _ => ⟨rfl, e0, (by decide : 0 + 1 ≤ _), (by decide : 0 + 4 ≤ _)⟩)
  dsimp only [Pt.U, Pt.locs, Pt.cells, Pt.slots] at X2 l2 y2 z2 st2 hQ2
  subst l2 y2 z2
  obtain ⟨t_2, kt_2, rfl, N2q, K2, sx2_0, f3, f4, f5, f6, f7⟩ := hQ2
  have ot_2 : n0 ≤ t_2 := Nat.le_trans Z0 sx2_0
  have zt_2 : h0.size ≤ t_2 := Nat.le_trans (Keep.refl h0 [u0]).1 sx2_0
  have ne8 : u0 ≠ t_2 := Nat.ne_of_lt (Nat.lt_of_lt_of_le P_E_u0.lt sx2_0)
  have ne9 : u1 ≠ t_2 := Nat.ne_of_lt (Nat.lt_of_lt_of_le P_V_u1.lt sx2_0)
  have KK2 : Keep h0 T2.heap [u0] := Keep.trans (Keep.refl h0 [u0]) K2 (allS (Or.inl (List.mem_of_getElem? (i := 0) rfl)) all0)
  have N2 := Fr.app N0 N2q
  obtain ⟨fs, hr, hrun, hended, hW, hsame⟩ := X2.leave (v := none) (fun _ => rfl)
  refine ⟨_, _, pre0 _ ?_, hrun, hended, _, _, rfl, ?_, ⟨_, rfl⟩, hW, hsame.mono (by decide) (by decide)⟩
  · refine XS.aloadN X0.here hx rfl (hb hby d2_0) rfl rfl ?_
    refine XS.aloadN X0.here hx rfl (hb hby d2_1) rfl rfl ?_
    refine XS.iconst X0.here hx rfl (hb hby d2_2) ?_
    refine XS.aloadN X0.here hx rfl (hb hby d2_3) rfl rfl ?_
    refine X0.arraylength hx (by rw [e0]; exact Ar1.1) (State.isArrayOf_alike hZ.alike Ar1.2.1) (g := (mkF m 4 #[rv u0, rv u1] [(.ref u1), (.int (0 : Int32)), (.ref u1), (.ref u0)])) rfl rfl (hb hby d2_4) _ ?_
    rw [len_of S1 N1_]
    refine XS.aconstNull X0.here hx rfl (hb hby d2_5) ?_
    show Steps _ _ _ (s₁.setTop (mkF m 6 #[rv u0, rv u1] [.null, (.int (4 : Int32)), (.int (0 : Int32)), (.ref u1), (.ref u0)])) _
    refine st2.trans ?_
    show Steps _ _ _ (T2.setTop (mkF m 9 #[rv u0, rv u1] [])) _
    exact X2.returnOut hx Bd.returns (hb hby d2_9) hr
  · show Q_rmI1_4 Z u0 u1 kA c0 c1 c2 c3 zC h0 n0 _ T2.heap _
    exact ⟨t_2, kt_2, rfl, N2, KK2, zt_2, f3, f4, f5, f6, f7⟩

theorem ef_rmI4_0 (m : MethodId) (x0 : Addr) (x1 : Addr) (x2 : Int32) (x3 : Int32) : entryFrame m #[(.ref x0), (.ref x1), (.int x2), (.int x3), .null] 6 = mkF m 0 #[rv x0, rv x1, iv x2, iv x3, .val .null, .unset] [] := by first | (simp [entryFrame, mkF, argsToLocals, Value.category]; done) | rfl
def Q_rmI4_0 (Z : State) (u0 : Addr) (u1 : Addr) (h0 : Heap) (n0 : Nat) (v : Option Value) (h : Heap) (L : List Loc) : Prop := ∃ (t : Jvm.Addr), ∃ (kt : ClassId), (v = none ∧ Fr n0 L ∧ Keep h0 h [u0] ∧ Exa Z h u0 "java/lang/String" ∧ Fld Z h u0 "java/lang/String" "value" "[B" (.ref t) ∧ Fld Z h u0 "java/lang/String" "coder" "B" (.int (0 : Int32)) ∧ Exa Z h t "[B" ∧ Arv Z h t kt .byte (0 : Int32) [] (.int (0 : Int32)))
set_option maxRecDepth 65536 in
set_option maxHeartbeats 40000000 in
theorem rmI4_0 (l : Launch) (Z : State) (a0 : Array Value) (hw : ∀ d ∈ tables_1, d.before a0 Z = true) (ws : List Jvm.Cond) (u0 : Addr) (u1 : Addr) (h0 : Heap) (n0 : Nat) (Z0 : n0 ≤ h0.size) (P_E_u0 : Exa Z h0 u0 "java/lang/String") (P_F_u0_String_value : Fld Z h0 u0 "java/lang/String" "value" "[B" .null) (P_F_u0_String_coder : Fld Z h0 u0 "java/lang/String" "coder" "B" (.int (0 : Int32))) (g_u0 : n0 ≤ u0) :
    MetFree l own_y3 (head1 (Jvm.Cond.code own_y3 jdk_42_method_149_code 6 none :: ws) ({ frames := 1, cells := 4, slots := 8, locals := 12 } : Room)) (fun a U => a = #[(.ref u0), (.ref u1), (.int (0 : Int32)), (.int (0 : Int32)), .null] ∧ Z.Warmed39 U.vm ∧ U.heap = h0 ∧ CHv Z own_EL U.vm h0) (fun _ _ _ _ _ => True) (fun _ U o U' => ∃ v L, o = .returned v ∧ Q_rmI4_0 Z u0 u1 h0 n0 v U'.heap L ∧ CHr Z own_EL U.vm U.heap U'.vm U'.heap ∧ ReturnedEndW U o U' L ({ frames := 1, cells := 4, slots := 8, locals := 12 } : Room).cells ({ frames := 1, cells := 4, slots := 8, locals := 12 } : Room).slots) := by
  refine MetFree.of_bodySF (plainFor_of_name pn_3) hisR ?_
  intro p e s m args below meth c s₁ Bd hml0 hP hK
  obtain ⟨rfl, hZ, hh, hCH⟩ := hP
  have hx := Bd.exec
  have hby := Bd.bytes
  have hml : c.maxLocals = 6 := hml0
  have hown : s.vm.findClass "java/lang/String" = some m.cls := findClass_of_methodNamed Bd.named
  have hnm := (name_of_methodNamed Bd.named Bd.method).1
  have X0 : Stand p l e ({ frames := 1, cells := 4, slots := 8, locals := 12 } : Room) s m #[(.ref u0), (.ref u1), (.int (0 : Int32)), (.int (0 : Int32)), .null] below meth c s₁ [] 0 0 := Stand.of_body Bd
  have e0 : s₁.heap = h0 := by rw [← hh, Bd.state]; rfl
  have N0 := Fr.nil n0
  have pre0 : ∀ t, Steps p.tables e below (s₁.setTop (mkF m 0 #[rv u0, rv u1, iv (0 : Int32), iv (0 : Int32), .val .null, .unset] [])) t → Steps p.tables e below (s₁.setTop (entryFrame m #[(.ref u0), (.ref u1), (.int (0 : Int32)), (.int (0 : Int32)), .null] 6)) t := fun t k => castTop (ef_rmI4_0 m u0 u1 (0 : Int32) (0 : Int32)) k
  have hEL : EW Z a0 own_EL := own_hEL hw
  have wS : ∀ a ∈ Bundle.stringAtoms, a.before a0 Z = true := fun d hd => hw d ((by decide +kernel : ∀ d ∈ Bundle.stringAtoms, d ∈ tables_1) d hd)
  have CH0 : CHr Z own_EL s.vm h0 s.vm h0 := CHr.refl hCH
  have hS0 : s.Since s.vm h0.size := (State.WarmedH.refl s).since _
  have Y_u0 : Safe Z own_EL s.vm h0 u0 := own_safeN hZ.alike P_E_u0 P_F_u0_String_value
  have pre1 : ∀ t, Steps p.tables e below (s₁.setTop (mkF m 1 #[rv u0, rv u1, iv (0 : Int32), iv (0 : Int32), .val .null, .unset] [(.ref u0)])) t → Steps p.tables e below (s₁.setTop (entryFrame m #[(.ref u0), (.ref u1), (.int (0 : Int32)), (.int (0 : Int32)), .null] 6)) t := fun t kt => pre0 t (by
   refine XS.aloadN X0.here hx rfl (hb hby d3_0) rfl rfl ?_
   exact kt)
  obtain ⟨T2, X2, e2, st2⟩ := initO X0 hx hZ hown (own_g hw 17 rfl) (own_g hw 18 rfl) (own_g hw 19 rfl) e0 (g := (mkF m 1 #[rv u0, rv u1, iv (0 : Int32), iv (0 : Int32), .val .null, .unset] [(.ref u0)])) rfl (by rw [hml]; rfl) rfl (hb hby d3_1) (by decide) (W := 0) (by show 2 * 0 + _ ≤ _; exact Nat.le_of_eq rfl) (by decide)
  have pre3 : ∀ t, Steps p.tables e below (T2.setTop (mkF m 9 #[rv u0, rv u1, iv (0 : Int32), iv (0 : Int32), .val .null, .unset] [(.ref u0)])) t → Steps p.tables e below (s₁.setTop (entryFrame m #[(.ref u0), (.ref u1), (.int (0 : Int32)), (.int (0 : Int32)), .null] 6)) t := fun t kt => pre1 t (by
   show Steps _ _ _ (s₁.setTop (mkF m 1 #[rv u0, rv u1, iv (0 : Int32), iv (0 : Int32), .val .null, .unset] [(.ref u0)])) _
   refine st2 _ ?_
   refine XS.iloadN X2.here hx rfl (hb hby d3_4) rfl ?_
   refine XS.ifNo X2.here hx rfl (hb hby d3_5) rfl ((if0 _ _).trans (teq (by decide : (0 : Int32) = (0 : Int32))).2) ?_
   refine XS.aloadN X2.here hx rfl (hb hby d3_8) rfl rfl ?_
   exact kt)
  obtain ⟨a4, T4, h4, kk4, b4, kc4, X4, e4, E4, hS4, hk4, hZ4, hown4, Ea4, Ca4, Va4, Aa4, la4, lb4, CHq4, Lt4, nx4, st4⟩ := ldcCH (vs := []) (z := (0 : Int32)) (show Stand p l e ({ frames := 1, cells := 4, slots := 8, locals := 12 } : Room) (s.setVm s.vm) m _ below meth c _ _ _ _ from X2) hx hZ hown (own_g hw 20 rfl) wS e2 hS0 (Nat.le_refl h0.size) hEL (List.mem_of_getElem? (i := 3) rfl) CH0.1 ⟨by decide, rfl⟩ (by decide) rfl (g := (mkF m 9 #[rv u0, rv u1, iv (0 : Int32), iv (0 : Int32), .val .null, .unset] [(.ref u0)])) rfl (hb hby d3_9) (n := 0) (by decide) (by decide) (by decide) (by decide)
  have K4 : Keep h0 h4 [u0] := (Keep.refl h0 [u0]).ext E4
  have CH5 : CHr Z own_EL s.vm h0 T4.vm h4 := CH0.trans CHq4
  have Yr6 : Safe Z own_EL T4.vm h4 u0 := CHr.safe CHq4 P_E_u0.lt Y_u0
  have Qb4 : Exa Z h4 b4 "[B" := own_litB hZ4.alike Aa4 (Classical.byContradiction fun S_ => (nx4 b4 S_).2 rfl)
  obtain ⟨T7, X7, e7, st7⟩ := getF X4 hx hZ4 hown4 (host := "") (Or.inl (own_g hw 26 rfl)) Via.refl e4 Va4 (g := (mkF m 11 #[rv u0, rv u1, iv (0 : Int32), iv (0 : Int32), .val .null, .unset] [(.ref a4), (.ref u0)])) rfl rfl (hb hby d3_11)
  have f8 := (P_E_u0.ext E4)
  have f9 := (P_F_u0_String_value.ext E4)
  obtain ⟨T10, h10, X10, e10, W10, st10⟩ := putF X7 hx hZ4 hown4 (host := "") (Or.inl (own_g hw 26 rfl)) Via.refl e7 f9 f8 (Or.inr ⟨(own_g hw 22 rfl), rfl, hnm⟩) (own_g hw 7 rfl) (ty := (.array .byte)) (by decide) rfl rfl (g := (mkF m 14 #[rv u0, rv u1, iv (0 : Int32), iv (0 : Int32), .val .null, .unset] [(.ref b4), (.ref u0)])) rfl rfl (hb hby d3_14)
  have CH11 : CHr Z own_EL s.vm h0 T4.vm h10 := CH5.trans (CHr.wr W10 Yr6 CH5.1)
  have f10_ : Fld Z h10 u0 "java/lang/String" "value" "[B" (.ref b4) := f9.same W10
  have N12 := Fr.snoc X10 N0 g_u0
  have K13 : Keep h0 h10 [u0] := K4.wr W10 (Or.inl (List.mem_of_getElem? (i := 0) rfl))
  have pre14 : ∀ t, Steps p.tables e below (T10.setTop (mkF m 18 #[rv u0, rv u1, iv (0 : Int32), iv (0 : Int32), .val .null, .unset] [(.ref u0)])) t → Steps p.tables e below (s₁.setTop (entryFrame m #[(.ref u0), (.ref u1), (.int (0 : Int32)), (.int (0 : Int32)), .null] 6)) t := fun t kt => pre3 t (by
   refine st4 _ ?_
   refine st7 _ ?_
   refine st10 _ ?_
   refine XS.aloadN X10.here hx rfl (hb hby d3_17) rfl rfl ?_
   exact kt)
  have f15 := (Nat.le_trans hk4 (Keep.of_wr W10).1)
  have f16 : Safe Z own_EL T4.vm h10 u0 := (Safe.wr W10 Yr6 CH5.1 Yr6)
  have f17 := (f8.wr W10)
  obtain ⟨a18, T18, h18, kk18, b18, kc18, X18, e18, E18, hS18, hk18, hZ18, hown18, Ea18, Ca18, Va18, Aa18, la18, lb18, CHq18, Lt18, nx18, st18⟩ := ldcCH (vs := []) (z := (0 : Int32)) (show Stand p l e ({ frames := 1, cells := 4, slots := 8, locals := 12 } : Room) (s.setVm T4.vm) m _ below meth c _ _ _ _ from X10) hx hZ4 hown4 (own_g hw 20 rfl) wS e10 hS4 f15 hEL (List.mem_of_getElem? (i := 3) rfl) CH11.1 ⟨by decide, rfl⟩ (by decide) rfl (g := (mkF m 18 #[rv u0, rv u1, iv (0 : Int32), iv (0 : Int32), .val .null, .unset] [(.ref u0)])) rfl (hb hby d3_18) (n := 0) (by decide) (by decide) (by decide) (by decide)
  have K18 : Keep h0 h18 [u0] := K13.ext E18
  have CH19 : CHr Z own_EL s.vm h0 T18.vm h18 := CH11.trans CHq18
  have Yr20 : Safe Z own_EL T18.vm h18 u0 := CHr.safe CHq18 f17.lt f16
  have Qb18 : Exa Z h18 b18 "[B" := own_litB hZ18.alike Aa18 (Classical.byContradiction fun S_ => (nx18 b18 S_).2 rfl)
  obtain ⟨T21, X21, e21, st21⟩ := getF X18 hx hZ18 hown18 (host := "") (Or.inl (own_g hw 27 rfl)) Via.refl e18 Ca18 (g := (mkF m 20 #[rv u0, rv u1, iv (0 : Int32), iv (0 : Int32), .val .null, .unset] [(.ref a18), (.ref u0)])) rfl rfl (hb hby d3_20)
  have f22 := (f17.ext E18)
  have f23 := (((P_F_u0_String_coder.ext E4).other W10 (Or.inr (slot_ne (Or.inr (own_g hw 23 rfl)) (Or.inr (own_g hw 22 rfl)) (by decide) (t := .byte) (t' := (.array .byte)) (by decide) (by decide)))).ext E18)
  obtain ⟨T24, h24, X24, e24, W24, st24⟩ := putFN X21 hx hZ18 hown18 (own_g hw 27 rfl) Via.refl e21 f23 f22 (Or.inr ⟨(own_g hw 23 rfl), rfl, hnm⟩) (own_g hw 7 rfl) (ty := .byte) (v' := (.int (0 : Int32))) (by decide) rfl rfl (g := (mkF m 23 #[rv u0, rv u1, iv (0 : Int32), iv (0 : Int32), .val .null, .unset] [(.int (0 : Int32)), (.ref u0)])) rfl rfl (hb hby d3_23)
  have CH25 : CHr Z own_EL s.vm h0 T18.vm h24 := CH19.trans (CHr.wr W24 Yr20 CH19.1)
  have f24_ : Fld Z h24 u0 "java/lang/String" "coder" "B" (.int (0 : Int32)) := f23.same W24
  have N26 := Fr.snoc X24 N12 g_u0
  have K27 : Keep h0 h24 [u0] := K18.wr W24 (Or.inl (List.mem_of_getElem? (i := 0) rfl))
  obtain ⟨fs, hr, hrun, hended, hW, hsame⟩ := X24.leave (v := none) (fun _ => rfl)
  have f28 := (f22.wr W24)
  have f29 := ((f10_.ext E18).other W24 (Or.inr (slot_ne (Or.inr (own_g hw 22 rfl)) (Or.inr (own_g hw 23 rfl)) (by decide) (t := (.array .byte)) (t' := .byte) (by decide) (by decide))))
  have f30 := (((Qb4.wr W10).ext E18).wr W24)
  have f31 := (((Aa4.other W10 (Ne.symm (nx4 u0 Yr6).2)).ext E18).other W24 (Ne.symm (nx4 u0 Yr6).2))
  have f32 := (Nat.le_trans hk18 (Keep.of_wr W24).1)
  have qE := hS18.ended (c := ({ frames := 1, cells := 4, slots := 8, locals := 12 } : Room).cells) (k := ({ frames := 1, cells := 4, slots := 8, locals := 12 } : Room).slots) hW (show _ ≤ T24.heap.size from (by rw [e24]; exact f32)) (hsame.mono (by decide) (by decide))
  have qC : CHr Z own_EL s.vm s.heap T24.vm T24.heap := by rw [hh, e24]; exact CH25.trans (CHv.at (show Stand p l e ({ frames := 1, cells := 4, slots := 8, locals := 12 } : Room) (s.setVm T18.vm) m _ below meth c _ _ _ _ from X24) hZ18 hEL CH25.1)
  refine ⟨_, _, pre14 _ ?_, hrun, hended, _, _, rfl, ?_, qC, ⟨_, rfl⟩, qE.1, qE.2.1, qE.2.2⟩
  · refine st18 _ ?_
    refine st21 _ ?_
    refine st24 _ ?_
    show Steps _ _ _ (T24.setTop (mkF m 26 #[rv u0, rv u1, iv (0 : Int32), iv (0 : Int32), .val .null, .unset] [])) _
    exact X24.returnOut hx Bd.returns (hb hby d3_26) hr
  · show Q_rmI4_0 Z u0 u1 h0 n0 _ T24.heap _
    rw [e24]
    exact ⟨b4, kc4, rfl, N26, K27, f28, f29, f24_, f30, f31⟩

theorem ef_rmI1_0 (m : MethodId) (x0 : Addr) (x1 : Addr) : entryFrame m #[(.ref x0), (.ref x1)] 2 = mkF m 0 #[rv x0, rv x1] [] := by first | (simp [entryFrame, mkF, argsToLocals, Value.category]; done) | rfl
def Q_rmI1_0 (Z : State) (u0 : Addr) (u1 : Addr) (kA : ClassId) (h0 : Heap) (n0 : Nat) (v : Option Value) (h : Heap) (L : List Loc) : Prop := ∃ (t : Jvm.Addr), ∃ (kt : ClassId), (v = none ∧ Fr n0 L ∧ Keep h0 h [u0] ∧ Exa Z h u0 "java/lang/String" ∧ Fld Z h u0 "java/lang/String" "value" "[B" (.ref t) ∧ Fld Z h u0 "java/lang/String" "coder" "B" (.int (0 : Int32)) ∧ Exa Z h t "[B" ∧ Arv Z h t kt .byte (0 : Int32) [] (.int (0 : Int32)))
set_option maxRecDepth 65536 in
set_option maxHeartbeats 40000000 in
theorem rmI1_0 (l : Launch) (Z : State) (a0 : Array Value) (hw : ∀ d ∈ tables_1, d.before a0 Z = true) (ws : List Jvm.Cond) (u0 : Addr) (u1 : Addr) (kA : ClassId) (h0 : Heap) (n0 : Nat) (Z0 : n0 ≤ h0.size) (P_E_u0 : Exa Z h0 u0 "java/lang/String") (P_F_u0_String_value : Fld Z h0 u0 "java/lang/String" "value" "[B" .null) (P_F_u0_String_coder : Fld Z h0 u0 "java/lang/String" "coder" "B" (.int (0 : Int32))) (P_V_u1 : Arv Z h0 u1 kA .char (0 : Int32) [] (.int (0 : Int32))) (g_u0 : n0 ≤ u0) :
    MetFree l own_y4 (head1 (Jvm.Cond.code own_y4 jdk_42_method_3_code 2 none :: ws) ({ frames := 2, cells := 4, slots := 8, locals := 29 } : Room)) (fun a U => a = #[(.ref u0), (.ref u1)] ∧ Z.Warmed39 U.vm ∧ U.heap = h0 ∧ CHv Z own_EL U.vm h0) (fun _ _ _ _ _ => True) (fun _ U o U' => ∃ v L, o = .returned v ∧ Q_rmI1_0 Z u0 u1 kA h0 n0 v U'.heap L ∧ CHr Z own_EL U.vm U.heap U'.vm U'.heap ∧ ReturnedEndW U o U' L ({ frames := 2, cells := 4, slots := 8, locals := 29 } : Room).cells ({ frames := 2, cells := 4, slots := 8, locals := 29 } : Room).slots) := by
  refine MetFree.of_bodySF (plainFor_of_name pn_2) hisR ?_
  intro p e s m args below meth c s₁ Bd hml0 hP hK
  obtain ⟨rfl, hZ, hh, hCH⟩ := hP
  have hx := Bd.exec
  have hby := Bd.bytes
  have hml : c.maxLocals = 2 := hml0
  have hown : s.vm.findClass "java/lang/String" = some m.cls := findClass_of_methodNamed Bd.named
  have hnm := (name_of_methodNamed Bd.named Bd.method).1
  have X0 : Stand p l e ({ frames := 2, cells := 4, slots := 8, locals := 29 } : Room) s m #[(.ref u0), (.ref u1)] below meth c s₁ [] 0 0 := Stand.of_body Bd
  have e0 : s₁.heap = h0 := by rw [← hh, Bd.state]; rfl
  have N0 := Fr.nil n0
  have pre0 : ∀ t, Steps p.tables e below (s₁.setTop (mkF m 0 #[rv u0, rv u1] [])) t → Steps p.tables e below (s₁.setTop (entryFrame m #[(.ref u0), (.ref u1)] 2)) t := fun t k => castTop (ef_rmI1_0 m u0 u1) k
  have hEL : EW Z a0 own_EL := own_hEL hw
  have wS : ∀ a ∈ Bundle.stringAtoms, a.before a0 Z = true := fun d hd => hw d ((by decide +kernel : ∀ d ∈ Bundle.stringAtoms, d ∈ tables_1) d hd)
  have CH0 : CHr Z own_EL s.vm h0 s.vm h0 := CHr.refl hCH
  have hS0 : s.Since s.vm h0.size := (State.WarmedH.refl s).since _
  obtain ⟨cl1, Ar1, qq1, S1, N1_, H1, G1⟩ := id P_V_u1
  have pre2 : ∀ t, Steps p.tables e below (s₁.setTop (mkF m 6 #[rv u0, rv u1] [.null, (.int (0 : Int32)), (.int (0 : Int32)), (.ref u1), (.ref u0)])) t → Steps p.tables e below (s₁.setTop (entryFrame m #[(.ref u0), (.ref u1)] 2)) t := fun t kt => pre0 t (by
   refine XS.aloadN X0.here hx rfl (hb hby d2_0) rfl rfl ?_
   refine XS.aloadN X0.here hx rfl (hb hby d2_1) rfl rfl ?_
   refine XS.iconst X0.here hx rfl (hb hby d2_2) ?_
   refine XS.aloadN X0.here hx rfl (hb hby d2_3) rfl rfl ?_
   refine X0.arraylength hx (by rw [e0]; exact Ar1.1) (State.isArrayOf_alike hZ.alike Ar1.2.1) (g := (mkF m 4 #[rv u0, rv u1] [(.ref u1), (.int (0 : Int32)), (.ref u1), (.ref u0)])) rfl rfl (hb hby d2_4) _ ?_
   rw [len_of S1 N1_]
   refine XS.aconstNull X0.here hx rfl (hb hby d2_5) ?_
   exact kt)
  obtain ⟨_, _, ⟨T3, L3, k3, n3⟩, -, Xw3, hSw3, gr3, ⟨Lc3, hQ3, l3, y3, z3, CHq3⟩, st3⟩ := X0.specialBackS hx (y := own_y3) rfl hown (mvT hZ (own_g hw 13 rfl)) (mvT hZ (own_g hw 14 rfl)) (mvT hZ (own_g hw 16 rfl)) (by decide) (backOfSH (W := 0) (rmI4_0 l Z a0 hw [] u0 u1 h0 n0 Z0 P_E_u0 P_F_u0_String_value P_F_u0_String_coder g_u0) hZ (own_g hw 16 rfl) (own_g hw 8 rfl) (by decide) (by decide) hEL CH0.1) (g := (mkF m 6 #[rv u0, rv u1] [.null, (.int (0 : Int32)), (.int (0 : Int32)), (.ref u1), (.ref u0)])) rfl (by rw [hml]; rfl) (Steps.refl _) (a := u0) (argsL := [(.ref u1), (.int (0 : Int32)), (.int (0 : Int32)), .null]) (rest := []) (lenOf pd___CIILjava_lang_Void__V rfl) rfl (by show 2 * 0 + _ ≤ _; exact Nat.le_of_eq rfl) (hb hby d2_6) (fun _ _ => ⟨rfl, e0, (by decide : 0 + 4 ≤ _), (by decide : 0 + 8 ≤ _)⟩)
  dsimp only [Pt.U, Pt.locs, Pt.cells, Pt.slots] at Xw3 hSw3 gr3 l3 y3 z3 st3 hQ3 CHq3
  subst l3 y3 z3
  obtain ⟨X3, hS3, hZ3, hown3⟩ := rebS hS0 (by rw [e0]; exact (Nat.le_refl h0.size)) Xw3 hSw3 gr3 hZ hown
  obtain ⟨t_3, kt_3, rfl, N3q, K3, f4, f5, f6, f7, f8⟩ := hQ3
  have KK3 : Keep h0 T3.heap [u0] := Keep.trans (Keep.refl h0 [u0]) K3 (allS (Or.inl (List.mem_of_getElem? (i := 0) rfl)) all0)
  have CH9 : CHr Z own_EL s.vm h0 T3.vm T3.heap := CH0.trans CHq3
  have N3 := Fr.app N0 N3q
  obtain ⟨fs, hr, hrun, hended, hW, hsame⟩ := X3.leave (v := none) (fun _ => rfl)
  have qE := hS3.ended (c := ({ frames := 2, cells := 4, slots := 8, locals := 29 } : Room).cells) (k := ({ frames := 2, cells := 4, slots := 8, locals := 29 } : Room).slots) hW (show _ ≤ T3.heap.size from (Nat.le_refl _)) (hsame.mono (by decide) (by decide))
  have qC : CHr Z own_EL s.vm s.heap T3.vm T3.heap := by rw [hh]; exact CH9.trans (CHv.at (show Stand p l e ({ frames := 2, cells := 4, slots := 8, locals := 29 } : Room) (s.setVm T3.vm) m _ below meth c _ _ _ _ from X3) hZ3 hEL CH9.1)
  refine ⟨_, _, pre2 _ ?_, hrun, hended, _, _, rfl, ?_, qC, ⟨_, rfl⟩, qE.1, qE.2.1, qE.2.2⟩
  · show Steps _ _ _ (s₁.setTop (mkF m 6 #[rv u0, rv u1] [.null, (.int (0 : Int32)), (.int (0 : Int32)), (.ref u1), (.ref u0)])) _
    refine st3.trans ?_
    show Steps _ _ _ (T3.setTop (mkF m 9 #[rv u0, rv u1] [])) _
    exact X3.returnOut hx Bd.returns (hb hby d2_9) hr
  · show Q_rmI1_0 Z u0 u1 kA h0 n0 _ T3.heap _
    exact ⟨t_3, kt_3, rfl, N3, KK3, f4, f5, f6, f7, f8⟩

theorem ef_rmMk (m : MethodId) (x0 : Int32) (x1 : Int32) (x2 : Int32) (x3 : Int32) (x4 : Int32) : entryFrame m #[(.int x0), (.int x1), (.int x2), (.int x3), (.int x4)] 5 = mkF m 0 #[iv x0, iv x1, iv x2, iv x3, iv x4] [] := by first | (simp [entryFrame, mkF, argsToLocals, Value.category]; done) | rfl
def Q_rmMk (Z : State) (p0 : Int32) (c0 : Int32) (c1 : Int32) (c2 : Int32) (c3 : Int32) (zC : Int32) (h0 : Heap) (n0 : Nat) (v : Option Value) (h : Heap) (L : List Loc) : Prop := ∃ (sg : Addr), ∃ (t : Jvm.Addr), ∃ (kt : ClassId), (v = (some (.ref sg)) ∧ Fr n0 L ∧ Keep h0 h [] ∧ h0.size ≤ sg ∧ Exa Z h sg "java/lang/String" ∧ Fld Z h sg "java/lang/String" "value" "[B" (.ref t) ∧ Fld Z h sg "java/lang/String" "coder" "B" (.int (0 : Int32)) ∧ Exa Z h t "[B" ∧ Arv Z h t kt .byte p0 (own_nm p0 c0 c1 c2 c3) (.int 0))
set_option maxRecDepth 65536 in
set_option maxHeartbeats 40000000 in
theorem rmMk (l : Launch) (Z : State) (a0 : Array Value) (hw : ∀ d ∈ tables_1, d.before a0 Z = true) (ws : List Jvm.Cond) (p0 : Int32) (c0 : Int32) (c1 : Int32) (c2 : Int32) (c3 : Int32) (zC : Int32) (h0 : Heap) (n0 : Nat) (Z0 : n0 ≤ h0.size) (P_S_String_COMPACT_STRINGS : Sta Z h0 "java/lang/String" "COMPACT_STRINGS" "Z" (.int zC)) (hz : ¬ (zC = (0 : Int32))) (hc0 : ¬ c0 < 0 ∧ ¬ (127 : Int32) < c0) (hc1 : ¬ c1 < 0 ∧ ¬ (127 : Int32) < c1) (hc2 : ¬ c2 < 0 ∧ ¬ (127 : Int32) < c2) (hc3 : ¬ c3 < 0 ∧ ¬ (127 : Int32) < c3) (hn : p0 = (0 : Int32) ∨ p0 = (1 : Int32) ∨ p0 = (2 : Int32) ∨ p0 = (3 : Int32) ∨ p0 = (4 : Int32)) :
    MetFree l own_y5 (head1 (Jvm.Cond.code own_y5 method_2_code 5 (some (.object "java/lang/String")) :: ws) ({ frames := 4, cells := 6, slots := 12, locals := 66 } : Room)) (fun a U => a = #[(.int p0), (.int c0), (.int c1), (.int c2), (.int c3)] ∧ Z.Warmed39 U.vm ∧ U.heap = h0 ∧ CHv Z own_EL U.vm h0) (fun _ _ _ _ _ => True) (fun _ U o U' => ∃ v L, o = .returned v ∧ Q_rmMk Z p0 c0 c1 c2 c3 zC h0 n0 v U'.heap L ∧ CHr Z own_EL U.vm U.heap U'.vm U'.heap ∧ ReturnedEndW U o U' L ({ frames := 4, cells := 6, slots := 12, locals := 66 } : Room).cells ({ frames := 4, cells := 6, slots := 12, locals := 66 } : Room).slots) := by
  refine MetFree.of_bodySF (plainFor_of_name pn_1) hisR ?_
  intro p e s m args below meth c s₁ Bd hml0 hP hK
  obtain ⟨rfl, hZ, hh, hCH⟩ := hP
  have hx := Bd.exec
  have hby := Bd.bytes
  have hml : c.maxLocals = 5 := hml0
  have hown : s.vm.findClass "com/example/bundlewright/bundlewright/core/NameIsPinLaw" = some m.cls := findClass_of_methodNamed Bd.named
  have hnm := (name_of_methodNamed Bd.named Bd.method).1
  have X0 : Stand p l e ({ frames := 4, cells := 6, slots := 12, locals := 66 } : Room) s m #[(.int p0), (.int c0), (.int c1), (.int c2), (.int c3)] below meth c s₁ [] 0 0 := Stand.of_body Bd
  have e0 : s₁.heap = h0 := by rw [← hh, Bd.state]; rfl
  have N0 := Fr.nil n0
  have pre0 : ∀ t, Steps p.tables e below (s₁.setTop (mkF m 0 #[iv p0, iv c0, iv c1, iv c2, iv c3] [])) t → Steps p.tables e below (s₁.setTop (entryFrame m #[(.int p0), (.int c0), (.int c1), (.int c2), (.int c3)] 5)) t := fun t k => castTop (ef_rmMk m p0 c0 c1 c2 c3) k
  have hEL : EW Z a0 own_EL := own_hEL hw
  have wS : ∀ a ∈ Bundle.stringAtoms, a.before a0 Z = true := fun d hd => hw d ((by decide +kernel : ∀ d ∈ Bundle.stringAtoms, d ∈ tables_1) d hd)
  have CH0 : CHr Z own_EL s.vm h0 s.vm h0 := CHr.refl hCH
  have hS0 : s.Since s.vm h0.size := (State.WarmedH.refl s).since _
  have pre2 : ∀ t, Steps p.tables e below (s₁.setTop (mkF m 1 #[iv p0, iv c0, iv c1, iv c2, iv c3] [(.int p0)])) t → Steps p.tables e below (s₁.setTop (entryFrame m #[(.int p0), (.int c0), (.int c1), (.int c2), (.int c3)] 5)) t := fun t kt => pre0 t (by
   refine XS.iloadN X0.here hx rfl (hb hby d1_0) rfl ?_
   exact kt)
  by_cases hc1_1 : p0 = (0 : Int32)
  · obtain ⟨T3, h3, X3, e3, E3, A3, D3, U3, st3⟩ := newO X0 hx hZ hown (own_g hw 6 rfl) (own_g hw 7 rfl) (own_g hw 8 rfl) e0 (g := (mkF m 4 #[iv p0, iv c0, iv c1, iv c2, iv c3] [])) rfl (hb hby d1_4) (by decide) (by decide)
    obtain ⟨b3, g3⟩ : ∃ z, z = h0.size := ⟨_, rfl⟩
    rw [← g3] at A3 D3 U3 st3
    have o3 : n0 ≤ b3 := Nat.le_trans Z0 (Nat.le_of_eq g3.symm)
    have z3 : h0.size ≤ b3 := Nat.le_trans (Keep.refl h0 []).1 (Nat.le_of_eq g3.symm)
    have CH4 : CHr Z own_EL s.vm h0 s.vm h3 := CH0.trans (CHr.ext E3 CH0.1)
    have Yb5 : Safe Z own_EL s.vm h3 b3 := Safe.ext E3 CH0.1 (Safe.new (Nat.le_of_eq g3.symm))
    have K3 : Keep h0 h3 [] := (Keep.refl h0 []).ext E3
    have f6 : Fld Z h3 b3 "java/lang/String" "value" "[B" .null := D3 (Or.inr (own_g hw 22 rfl)) (ty := (.array .byte)) (by decide)
    have f7 : Fld Z h3 b3 "java/lang/String" "coder" "B" (.int (0 : Int32)) := D3 (Or.inr (own_g hw 23 rfl)) (ty := .byte) (by decide)
    have f8 := (Nat.le_trans Z0 E3.1)
    obtain ⟨T9, h9, k9, X9, e9, E9, A9, st9⟩ := newP X3 hx hZ (own_g hw 9 rfl) e3 (g := (mkF m 9 #[iv p0, iv c0, iv c1, iv c2, iv c3] [(.int (0 : Int32)), (.ref b3), (.ref b3)])) rfl (hb hby d1_9) rfl (by decide) (cap := 0) (by decide) (by decide) (by decide) (by decide)
    obtain ⟨b9, g9⟩ : ∃ z, z = h3.size := ⟨_, rfl⟩
    rw [← g9] at A9 st9
    have ne10 : b3 ≠ b9 := Nat.ne_of_lt (Nat.lt_of_lt_of_le A3.lt (Nat.le_of_eq g9.symm))
    have o9 : n0 ≤ b9 := Nat.le_trans f8 (Nat.le_of_eq g9.symm)
    have z9 : h0.size ≤ b9 := Nat.le_trans K3.1 (Nat.le_of_eq g9.symm)
    have CH11 : CHr Z own_EL s.vm h0 s.vm h9 := CH4.trans (CHr.ext E9 CH4.1)
    have Yb12 : Safe Z own_EL s.vm h9 b9 := Safe.ext E9 CH4.1 (Safe.new (Nat.le_of_eq g9.symm))
    have K9 : Keep h0 h9 [] := K3.ext E9
    have V9 : Arv Z h9 b9 k9 .char (0 : Int32) [] (.int (0 : Int32)) := Arv.new A9 (by decide)
    have pre13 : ∀ t, Steps p.tables e below (T9.setTop (mkF m 11 #[iv p0, iv c0, iv c1, iv c2, iv c3] [(.ref b9), (.ref b3), (.ref b3)])) t → Steps p.tables e below (s₁.setTop (entryFrame m #[(.int p0), (.int c0), (.int c1), (.int c2), (.int c3)] 5)) t := fun t kt => pre2 t (by
     refine XS.ifNo X0.here hx rfl (hb hby d1_1) rfl ((if0 _ _).trans (teq hc1_1).2) ?_
     refine st3 _ ?_
     refine XS.dup X3.here hx rfl (hb hby d1_7) rfl rfl ?_
     refine XS.iconst X3.here hx rfl (hb hby d1_8) ?_
     refine st9 _ ?_
     exact kt)
    have f14 := (A3.ext E9)
    have f15 := (f6.ext E9)
    have f16 := (f7.ext E9)
    have f17 := (Nat.le_trans f8 E9.1)
    have f19 := (Nat.le_trans (Nat.le_trans (Nat.le_refl h0.size) E3.1) E9.1)
    have f20 : Safe Z own_EL s.vm h9 b3 := (Safe.ext E9 CH4.1 Yb5)
    obtain ⟨_, _, ⟨T18, L18, k18, n18⟩, -, Xw18, hSw18, gr18, ⟨Lc18, hQ18, l18, y18, z18, CHq18⟩, st18⟩ := X9.specialBackS hx (y := own_y4) rfl hown (mvT hZ (own_g hw 10 rfl)) (mvT hZ (own_g hw 11 rfl)) (mvT hZ (own_g hw 12 rfl)) (by decide) (backOfSH (W := 1) (rmI1_0 l Z a0 hw [] b3 b9 k9 h9 n0 f17 f14 f15 f16 V9 o3) hZ (own_g hw 12 rfl) (own_g hw 8 rfl) (by decide) (by decide) hEL CH11.1) (g := (mkF m 11 #[iv p0, iv c0, iv c1, iv c2, iv c3] [(.ref b9), (.ref b3), (.ref b3)])) rfl (by rw [hml]; rfl) (Steps.refl _) (a := b3) (argsL := [(.ref b9)]) (rest := [(.ref b3)]) (lenOf pd___C_V rfl) rfl (by show 2 * 0 + _ ≤ _; exact Nat.le_of_eq rfl) (hb hby d1_11) (fun _ _ => ⟨rfl, e9, (by decide : 2 + 4 ≤ _), (by decide : 4 + 8 ≤ _)⟩)
    dsimp only [Pt.U, Pt.locs, Pt.cells, Pt.slots] at Xw18 hSw18 gr18 l18 y18 z18 st18 hQ18 CHq18
    subst l18 y18 z18
    obtain ⟨X18, hS18, hZ18, hown18⟩ := rebS hS0 (by rw [e9]; exact f19) Xw18 hSw18 gr18 hZ hown
    obtain ⟨t_18, kt_18, rfl, N18q, K18, f21, f22, f23, f24, f25⟩ := hQ18
    have KK18 : Keep h0 T18.heap [] := Keep.trans K9 K18 (allS (Or.inr z3) all0)
    have CH26 : CHr Z own_EL s.vm h0 T18.vm T18.heap := CH11.trans CHq18
    have Yr27 : Safe Z own_EL T18.vm T18.heap b3 := CHr.safe CHq18 f14.lt f20
    have Yr28 : Safe Z own_EL T18.vm T18.heap b9 := CHr.safe CHq18 V9.lt Yb12
    have N18 := Fr.app N0 N18q
    obtain ⟨fs, hr, hrun, hended, hW, hsame⟩ := X18.leave (v := some (.ref b3)) (fun h => by rw [Bd.returns] at h; cases h)
    have qE := hS18.ended (c := ({ frames := 4, cells := 6, slots := 12, locals := 66 } : Room).cells) (k := ({ frames := 4, cells := 6, slots := 12, locals := 66 } : Room).slots) hW (show _ ≤ T18.heap.size from (Nat.le_refl _)) (hsame.mono (by decide) (by decide))
    have qC : CHr Z own_EL s.vm s.heap T18.vm T18.heap := by rw [hh]; exact CH26.trans (CHv.at (show Stand p l e ({ frames := 4, cells := 6, slots := 12, locals := 66 } : Room) (s.setVm T18.vm) m _ below meth c _ _ _ _ from X18) hZ18 hEL CH26.1)
    refine ⟨_, _, pre13 _ ?_, hrun, hended, _, _, rfl, ?_, qC, ⟨_, rfl⟩, qE.1, qE.2.1, qE.2.2⟩
    · show Steps _ _ _ (T9.setTop (mkF m 11 #[iv p0, iv c0, iv c1, iv c2, iv c3] [(.ref b9), (.ref b3), (.ref b3)])) _
      refine st18.trans ?_
      show Steps _ _ _ (T18.setTop (mkF m 14 #[iv p0, iv c0, iv c1, iv c2, iv c3] [(.ref b3)])) _
      exact retOut X18 hx Bd.returns rfl (Or.inr (Or.inr (Or.inr (Or.inr ⟨rfl, rfl, rfl⟩)))) (hb hby d1_14) hr
    · show Q_rmMk Z p0 c0 c1 c2 c3 zC h0 n0 _ T18.heap _
      exact ⟨b3, t_18, kt_18, rfl, N18, KK18, z3, f21, f22, f23, f24, (own_nmc0 hc1_1 f25)⟩
  · have pre30 : ∀ t, Steps p.tables e below (s₁.setTop (mkF m 17 #[iv p0, iv c0, iv c1, iv c2, iv c3] [(.int (1 : Int32)), (.int p0)])) t → Steps p.tables e below (s₁.setTop (entryFrame m #[(.int p0), (.int c0), (.int c1), (.int c2), (.int c3)] 5)) t := fun t kt => pre2 t (by
     refine XS.ifYes X0.here hx rfl (pc0 := 1) (pc' := 15) rfl (hb hby d1_1) rfl ((if0 _ _).trans (feq hc1_1).2) (by decide) (by decide) ?_
     refine XS.iloadN X0.here hx rfl (hb hby d1_15) rfl ?_
     refine XS.iconst X0.here hx rfl (hb hby d1_16) ?_
     exact kt)
    by_cases hc17_29 : p0 = (1 : Int32)
    · obtain ⟨T31, h31, X31, e31, E31, A31, D31, U31, st31⟩ := newO X0 hx hZ hown (own_g hw 6 rfl) (own_g hw 7 rfl) (own_g hw 8 rfl) e0 (g := (mkF m 20 #[iv p0, iv c0, iv c1, iv c2, iv c3] [])) rfl (hb hby d1_20) (by decide) (by decide)
      obtain ⟨b31, g31⟩ : ∃ z, z = h0.size := ⟨_, rfl⟩
      rw [← g31] at A31 D31 U31 st31
      have o31 : n0 ≤ b31 := Nat.le_trans Z0 (Nat.le_of_eq g31.symm)
      have z31 : h0.size ≤ b31 := Nat.le_trans (Keep.refl h0 []).1 (Nat.le_of_eq g31.symm)
      have CH32 : CHr Z own_EL s.vm h0 s.vm h31 := CH0.trans (CHr.ext E31 CH0.1)
      have Yb33 : Safe Z own_EL s.vm h31 b31 := Safe.ext E31 CH0.1 (Safe.new (Nat.le_of_eq g31.symm))
      have K31 : Keep h0 h31 [] := (Keep.refl h0 []).ext E31
      have f34 : Fld Z h31 b31 "java/lang/String" "value" "[B" .null := D31 (Or.inr (own_g hw 22 rfl)) (ty := (.array .byte)) (by decide)
      have f35 : Fld Z h31 b31 "java/lang/String" "coder" "B" (.int (0 : Int32)) := D31 (Or.inr (own_g hw 23 rfl)) (ty := .byte) (by decide)
      have f36 := (Nat.le_trans Z0 E31.1)
      obtain ⟨T37, h37, k37, X37, e37, E37, A37, st37⟩ := newP X31 hx hZ (own_g hw 9 rfl) e31 (g := (mkF m 25 #[iv p0, iv c0, iv c1, iv c2, iv c3] [(.int (1 : Int32)), (.ref b31), (.ref b31)])) rfl (hb hby d1_25) rfl (by decide) (cap := 1) (by decide) (by decide) (by decide) (by decide)
      obtain ⟨b37, g37⟩ : ∃ z, z = h31.size := ⟨_, rfl⟩
      rw [← g37] at A37 st37
      have ne38 : b31 ≠ b37 := Nat.ne_of_lt (Nat.lt_of_lt_of_le A31.lt (Nat.le_of_eq g37.symm))
      have o37 : n0 ≤ b37 := Nat.le_trans f36 (Nat.le_of_eq g37.symm)
      have z37 : h0.size ≤ b37 := Nat.le_trans K31.1 (Nat.le_of_eq g37.symm)
      have CH39 : CHr Z own_EL s.vm h0 s.vm h37 := CH32.trans (CHr.ext E37 CH32.1)
      have Yb40 : Safe Z own_EL s.vm h37 b37 := Safe.ext E37 CH32.1 (Safe.new (Nat.le_of_eq g37.symm))
      have K37 : Keep h0 h37 [] := K31.ext E37
      have V37 : Arv Z h37 b37 k37 .char (1 : Int32) [(.int (0 : Int32))] (.int (0 : Int32)) := (Arv.new A37 (by decide)).pad (pad_rep [] (.int (0 : Int32)) 1)
      obtain ⟨cl41, Ar41, qq41, S41, N41_, H41, G41⟩ := id V37
      have hin41 : ¬ ((0 : Int32) < 0 ∨ cl41.slots.size ≤ ((0 : Int32)).toNatClampNeg) := inb_of S41 ⟨by decide, by decide⟩
      obtain ⟨T42, h42, X42, e42, W42, st42⟩ := stC X37 hx hZ e37 Ar41 (j := (0 : Int32)) hin41 (g := (mkF m 30 #[iv p0, iv c0, iv c1, iv c2, iv c3] [(.int c0), (.int (0 : Int32)), (.ref b37), (.ref b37), (.ref b31), (.ref b31)])) rfl rfl (hb hby d1_30)
      have CH43 : CHr Z own_EL s.vm h0 s.vm h42 := CH39.trans (CHr.wr W42 Yb40 CH39.1)
      have V42 : Arv Z h42 b37 k37 .char (1 : Int32) [(.int c0)] (.int (0 : Int32)) := by have q_ := Arv.set Ar41 qq41 S41 N41_ H41 G41 (fits_nar_char _) W42 0 rfl (Nat.le_of_ble_eq_true rfl); rw [own_nc hc0] at q_; exact q_
      have N44 := Fr.snoc X42 N0 o37
      have K45 : Keep h0 h42 [] := K37.wr W42 (Or.inr z37)
      have pre46 : ∀ t, Steps p.tables e below (T42.setTop (mkF m 31 #[iv p0, iv c0, iv c1, iv c2, iv c3] [(.ref b37), (.ref b31), (.ref b31)])) t → Steps p.tables e below (s₁.setTop (entryFrame m #[(.int p0), (.int c0), (.int c1), (.int c2), (.int c3)] 5)) t := fun t kt => pre30 t (by
       refine XS.icmpNo X0.here hx rfl (hb hby d1_17) rfl (teq hc17_29).2 ?_
       refine st31 _ ?_
       refine XS.dup X31.here hx rfl (hb hby d1_23) rfl rfl ?_
       refine XS.iconst X31.here hx rfl (hb hby d1_24) ?_
       refine st37 _ ?_
       refine XS.dup X37.here hx rfl (hb hby d1_27) rfl rfl ?_
       refine XS.iconst X37.here hx rfl (hb hby d1_28) ?_
       refine XS.iloadN X37.here hx rfl (hb hby d1_29) rfl ?_
       refine st42 _ ?_
       exact kt)
      have f47 := ((A31.ext E37).wr W42)
      have f48 := ((f34.ext E37).other W42 (Or.inl ne38))
      have f49 := ((f35.ext E37).other W42 (Or.inl ne38))
      have f50 := (((P_S_String_COMPACT_STRINGS.ext E31).ext E37).wr W42)
      have f51 := (Nat.le_trans (Nat.le_trans f36 E37.1) (Keep.of_wr W42).1)
      obtain ⟨_, _, ⟨T52, L52, k52, n52⟩, -, X52, ⟨Lc52, hQ52, l52, y52, z52⟩, st52⟩ := X42.specialBack hx (y := own_y4) rfl hown (mvT hZ (own_g hw 10 rfl)) (mvT hZ (own_g hw 11 rfl)) (mvT hZ (own_g hw 12 rfl)) (by decide) (backOf (W := 1) (rmI1_1 l Z a0 hw [] b31 b37 k37 c0 zC h42 n0 f51 f47 f48 f49 V42 ne38 hc0 f50 hz o31) hZ (own_g hw 12 rfl) (own_g hw 8 rfl) (by decide) (by decide)) (g := (mkF m 31 #[iv p0, iv c0, iv c1, iv c2, iv c3] [(.ref b37), (.ref b31), (.ref b31)])) rfl (by rw [hml]; rfl) (Steps.refl _) (a := b31) (argsL := [(.ref b37)]) (rest := [(.ref b31)]) (lenOf pd___C_V rfl) rfl (by show 2 * 0 + _ ≤ _; exact Nat.le_of_eq rfl) (hb hby d1_31) (fun _ _ => ⟨rfl, e42, (by decide : 2 + 1 ≤ _), (by decide : 5 + 1 ≤ _)⟩)
      dsimp only [Pt.U, Pt.locs, Pt.cells, Pt.slots] at X52 l52 y52 z52 st52 hQ52
      subst l52 y52 z52
      have f53 : Safe Z own_EL s.vm h42 b31 := (Safe.wr W42 Yb40 CH39.1 (Safe.ext E37 CH32.1 Yb33))
      obtain ⟨t_52, kt_52, rfl, N52q, K52, sx52_0, f54, f55, f56, f57, f58⟩ := hQ52
      have ot_52 : n0 ≤ t_52 := Nat.le_trans f51 sx52_0
      have zt_52 : h0.size ≤ t_52 := Nat.le_trans K45.1 sx52_0
      have ne59 : b31 ≠ t_52 := Nat.ne_of_lt (Nat.lt_of_lt_of_le f47.lt sx52_0)
      have ne60 : b37 ≠ t_52 := Nat.ne_of_lt (Nat.lt_of_lt_of_le V42.lt sx52_0)
      have KK52 : Keep h0 T52.heap [] := Keep.trans K45 K52 (allS (Or.inr z31) all0)
      have CH61 : CHr Z own_EL s.vm h0 s.vm T52.heap := CH43.trans (CHr.keep K52 (sfS f53 sf0) CH43.1)
      have N52 := Fr.app N44 N52q
      obtain ⟨fs, hr, hrun, hended, hW, hsame⟩ := X52.leave (v := some (.ref b31)) (fun h => by rw [Bd.returns] at h; cases h)
      have f62 := (Nat.le_trans (Nat.le_trans (Nat.le_trans (Nat.le_trans (Nat.le_refl h0.size) E31.1) E37.1) (Keep.of_wr W42).1) K52.1)
      have qE := hS0.ended (c := ({ frames := 4, cells := 6, slots := 12, locals := 66 } : Room).cells) (k := ({ frames := 4, cells := 6, slots := 12, locals := 66 } : Room).slots) hW (show _ ≤ T52.heap.size from f62) (hsame.mono (by decide) (by decide))
      have qC : CHr Z own_EL s.vm s.heap T52.vm T52.heap := by rw [hh]; exact CH61.trans (CHv.at (show Stand p l e ({ frames := 4, cells := 6, slots := 12, locals := 66 } : Room) (s.setVm s.vm) m _ below meth c _ _ _ _ from X52) hZ hEL CH61.1)
      refine ⟨_, _, pre46 _ ?_, hrun, hended, _, _, rfl, ?_, qC, ⟨_, rfl⟩, qE.1, qE.2.1, qE.2.2⟩
      · show Steps _ _ _ (T42.setTop (mkF m 31 #[iv p0, iv c0, iv c1, iv c2, iv c3] [(.ref b37), (.ref b31), (.ref b31)])) _
        refine st52.trans ?_
        show Steps _ _ _ (T52.setTop (mkF m 34 #[iv p0, iv c0, iv c1, iv c2, iv c3] [(.ref b31)])) _
        exact retOut X52 hx Bd.returns rfl (Or.inr (Or.inr (Or.inr (Or.inr ⟨rfl, rfl, rfl⟩)))) (hb hby d1_34) hr
      · show Q_rmMk Z p0 c0 c1 c2 c3 zC h0 n0 _ T52.heap _
        exact ⟨b31, t_52, kt_52, rfl, N52, KK52, z31, f54, f55, f56, f57, (own_nmc1 hc17_29 f58)⟩
    · have pre64 : ∀ t, Steps p.tables e below (s₁.setTop (mkF m 37 #[iv p0, iv c0, iv c1, iv c2, iv c3] [(.int (2 : Int32)), (.int p0)])) t → Steps p.tables e below (s₁.setTop (entryFrame m #[(.int p0), (.int c0), (.int c1), (.int c2), (.int c3)] 5)) t := fun t kt => pre30 t (by
       refine XS.icmpYes X0.here hx rfl (pc0 := 17) (pc' := 35) rfl (hb hby d1_17) rfl (feq hc17_29).2 (by decide) (by decide) ?_
       refine XS.iloadN X0.here hx rfl (hb hby d1_35) rfl ?_
       refine XS.iconst X0.here hx rfl (hb hby d1_36) ?_
       exact kt)
      by_cases hc37_63 : p0 = (2 : Int32)
      · obtain ⟨T65, h65, X65, e65, E65, A65, D65, U65, st65⟩ := newO X0 hx hZ hown (own_g hw 6 rfl) (own_g hw 7 rfl) (own_g hw 8 rfl) e0 (g := (mkF m 40 #[iv p0, iv c0, iv c1, iv c2, iv c3] [])) rfl (hb hby d1_40) (by decide) (by decide)
        obtain ⟨b65, g65⟩ : ∃ z, z = h0.size := ⟨_, rfl⟩
        rw [← g65] at A65 D65 U65 st65
        have o65 : n0 ≤ b65 := Nat.le_trans Z0 (Nat.le_of_eq g65.symm)
        have z65 : h0.size ≤ b65 := Nat.le_trans (Keep.refl h0 []).1 (Nat.le_of_eq g65.symm)
        have CH66 : CHr Z own_EL s.vm h0 s.vm h65 := CH0.trans (CHr.ext E65 CH0.1)
        have Yb67 : Safe Z own_EL s.vm h65 b65 := Safe.ext E65 CH0.1 (Safe.new (Nat.le_of_eq g65.symm))
        have K65 : Keep h0 h65 [] := (Keep.refl h0 []).ext E65
        have f68 : Fld Z h65 b65 "java/lang/String" "value" "[B" .null := D65 (Or.inr (own_g hw 22 rfl)) (ty := (.array .byte)) (by decide)
        have f69 : Fld Z h65 b65 "java/lang/String" "coder" "B" (.int (0 : Int32)) := D65 (Or.inr (own_g hw 23 rfl)) (ty := .byte) (by decide)
        have f70 := (Nat.le_trans Z0 E65.1)
        obtain ⟨T71, h71, k71, X71, e71, E71, A71, st71⟩ := newP X65 hx hZ (own_g hw 9 rfl) e65 (g := (mkF m 45 #[iv p0, iv c0, iv c1, iv c2, iv c3] [(.int (2 : Int32)), (.ref b65), (.ref b65)])) rfl (hb hby d1_45) rfl (by decide) (cap := 2) (by decide) (by decide) (by decide) (by decide)
        obtain ⟨b71, g71⟩ : ∃ z, z = h65.size := ⟨_, rfl⟩
        rw [← g71] at A71 st71
        have ne72 : b65 ≠ b71 := Nat.ne_of_lt (Nat.lt_of_lt_of_le A65.lt (Nat.le_of_eq g71.symm))
        have o71 : n0 ≤ b71 := Nat.le_trans f70 (Nat.le_of_eq g71.symm)
        have z71 : h0.size ≤ b71 := Nat.le_trans K65.1 (Nat.le_of_eq g71.symm)
        have CH73 : CHr Z own_EL s.vm h0 s.vm h71 := CH66.trans (CHr.ext E71 CH66.1)
        have Yb74 : Safe Z own_EL s.vm h71 b71 := Safe.ext E71 CH66.1 (Safe.new (Nat.le_of_eq g71.symm))
        have K71 : Keep h0 h71 [] := K65.ext E71
        have V71 : Arv Z h71 b71 k71 .char (2 : Int32) [(.int (0 : Int32)), (.int (0 : Int32))] (.int (0 : Int32)) := (Arv.new A71 (by decide)).pad (pad_rep [] (.int (0 : Int32)) 2)
        obtain ⟨cl75, Ar75, qq75, S75, N75_, H75, G75⟩ := id V71
        have hin75 : ¬ ((0 : Int32) < 0 ∨ cl75.slots.size ≤ ((0 : Int32)).toNatClampNeg) := inb_of S75 ⟨by decide, by decide⟩
        obtain ⟨T76, h76, X76, e76, W76, st76⟩ := stC X71 hx hZ e71 Ar75 (j := (0 : Int32)) hin75 (g := (mkF m 50 #[iv p0, iv c0, iv c1, iv c2, iv c3] [(.int c0), (.int (0 : Int32)), (.ref b71), (.ref b71), (.ref b65), (.ref b65)])) rfl rfl (hb hby d1_50)
        have CH77 : CHr Z own_EL s.vm h0 s.vm h76 := CH73.trans (CHr.wr W76 Yb74 CH73.1)
        have V76 : Arv Z h76 b71 k71 .char (2 : Int32) [(.int c0), (.int (0 : Int32))] (.int (0 : Int32)) := by have q_ := Arv.set Ar75 qq75 S75 N75_ H75 G75 (fits_nar_char _) W76 0 rfl (Nat.le_of_ble_eq_true rfl); rw [own_nc hc0] at q_; exact q_
        have N78 := Fr.snoc X76 N0 o71
        have K79 : Keep h0 h76 [] := K71.wr W76 (Or.inr z71)
        have f80 : Safe Z own_EL s.vm h76 b71 := (Safe.wr W76 Yb74 CH73.1 Yb74)
        obtain ⟨cl81, Ar81, qq81, S81, N81_, H81, G81⟩ := id V76
        have hin81 : ¬ ((1 : Int32) < 0 ∨ cl81.slots.size ≤ ((1 : Int32)).toNatClampNeg) := inb_of S81 ⟨by decide, by decide⟩
        obtain ⟨T82, h82, X82, e82, W82, st82⟩ := stC X76 hx hZ e76 Ar81 (j := (1 : Int32)) hin81 (g := (mkF m 54 #[iv p0, iv c0, iv c1, iv c2, iv c3] [(.int c1), (.int (1 : Int32)), (.ref b71), (.ref b71), (.ref b65), (.ref b65)])) rfl rfl (hb hby d1_54)
        have CH83 : CHr Z own_EL s.vm h0 s.vm h82 := CH77.trans (CHr.wr W82 f80 CH77.1)
        have V82 : Arv Z h82 b71 k71 .char (2 : Int32) [(.int c0), (.int c1)] (.int (0 : Int32)) := by have q_ := Arv.set Ar81 qq81 S81 N81_ H81 G81 (fits_nar_char _) W82 1 rfl (Nat.le_of_ble_eq_true rfl); rw [own_nc hc1] at q_; exact q_
        have N84 := Fr.snoc X82 N78 o71
        have K85 : Keep h0 h82 [] := K79.wr W82 (Or.inr z71)
        have pre86 : ∀ t, Steps p.tables e below (T82.setTop (mkF m 55 #[iv p0, iv c0, iv c1, iv c2, iv c3] [(.ref b71), (.ref b65), (.ref b65)])) t → Steps p.tables e below (s₁.setTop (entryFrame m #[(.int p0), (.int c0), (.int c1), (.int c2), (.int c3)] 5)) t := fun t kt => pre64 t (by
         refine XS.icmpNo X0.here hx rfl (hb hby d1_37) rfl (teq hc37_63).2 ?_
         refine st65 _ ?_
         show Steps _ _ _ (T65.setTop (mkF m 43 #[iv p0, iv c0, iv c1, iv c2, iv c3] [(.ref b65)])) _
         refine XS.dup X65.here hx rfl (hb hby d1_43) rfl rfl ?_
         refine XS.iconst X65.here hx rfl (hb hby d1_44) ?_
         refine st71 _ ?_
         refine XS.dup X71.here hx rfl (hb hby d1_47) rfl rfl ?_
         refine XS.iconst X71.here hx rfl (hb hby d1_48) ?_
         refine XS.iloadN X71.here hx rfl (hb hby d1_49) rfl ?_
         refine st76 _ ?_
         refine XS.dup X76.here hx rfl (hb hby d1_51) rfl rfl ?_
         refine XS.iconst X76.here hx rfl (hb hby d1_52) ?_
         refine XS.iloadN X76.here hx rfl (hb hby d1_53) rfl ?_
         refine st82 _ ?_
         exact kt)
        have f87 := (((A65.ext E71).wr W76).wr W82)
        have f88 := (((f68.ext E71).other W76 (Or.inl ne72)).other W82 (Or.inl ne72))
        have f89 := (((f69.ext E71).other W76 (Or.inl ne72)).other W82 (Or.inl ne72))
        have f90 := ((((P_S_String_COMPACT_STRINGS.ext E65).ext E71).wr W76).wr W82)
        have f91 := (Nat.le_trans (Nat.le_trans (Nat.le_trans f70 E71.1) (Keep.of_wr W76).1) (Keep.of_wr W82).1)
        obtain ⟨_, _, ⟨T92, L92, k92, n92⟩, -, X92, ⟨Lc92, hQ92, l92, y92, z92⟩, st92⟩ := X82.specialBack hx (y := own_y4) rfl hown (mvT hZ (own_g hw 10 rfl)) (mvT hZ (own_g hw 11 rfl)) (mvT hZ (own_g hw 12 rfl)) (by decide) (backOf (W := 1) (rmI1_2 l Z a0 hw [] b65 b71 k71 c0 c1 zC h82 n0 f91 f87 f88 f89 V82 ne72 hc0 hc1 f90 hz o65) hZ (own_g hw 12 rfl) (own_g hw 8 rfl) (by decide) (by decide)) (g := (mkF m 55 #[iv p0, iv c0, iv c1, iv c2, iv c3] [(.ref b71), (.ref b65), (.ref b65)])) rfl (by rw [hml]; rfl) (Steps.refl _) (a := b65) (argsL := [(.ref b71)]) (rest := [(.ref b65)]) (lenOf pd___C_V rfl) rfl (by show 2 * 0 + _ ≤ _; exact Nat.le_of_eq rfl) (hb hby d1_55) (fun _ _ => ⟨rfl, e82, (by decide : 2 + 1 ≤ _), (by decide : 6 + 2 ≤ _)⟩)
        dsimp only [Pt.U, Pt.locs, Pt.cells, Pt.slots] at X92 l92 y92 z92 st92 hQ92
        subst l92 y92 z92
        have f93 : Safe Z own_EL s.vm h82 b65 := (Safe.wr W82 f80 CH77.1 (Safe.wr W76 Yb74 CH73.1 (Safe.ext E71 CH66.1 Yb67)))
        obtain ⟨t_92, kt_92, rfl, N92q, K92, sx92_0, f94, f95, f96, f97, f98⟩ := hQ92
        have ot_92 : n0 ≤ t_92 := Nat.le_trans f91 sx92_0
        have zt_92 : h0.size ≤ t_92 := Nat.le_trans K85.1 sx92_0
        have ne99 : b65 ≠ t_92 := Nat.ne_of_lt (Nat.lt_of_lt_of_le f87.lt sx92_0)
        have ne100 : b71 ≠ t_92 := Nat.ne_of_lt (Nat.lt_of_lt_of_le V82.lt sx92_0)
        have KK92 : Keep h0 T92.heap [] := Keep.trans K85 K92 (allS (Or.inr z65) all0)
        have CH101 : CHr Z own_EL s.vm h0 s.vm T92.heap := CH83.trans (CHr.keep K92 (sfS f93 sf0) CH83.1)
        have N92 := Fr.app N84 N92q
        obtain ⟨fs, hr, hrun, hended, hW, hsame⟩ := X92.leave (v := some (.ref b65)) (fun h => by rw [Bd.returns] at h; cases h)
        have f102 := (Nat.le_trans (Nat.le_trans (Nat.le_trans (Nat.le_trans (Nat.le_trans (Nat.le_refl h0.size) E65.1) E71.1) (Keep.of_wr W76).1) (Keep.of_wr W82).1) K92.1)
        have qE := hS0.ended (c := ({ frames := 4, cells := 6, slots := 12, locals := 66 } : Room).cells) (k := ({ frames := 4, cells := 6, slots := 12, locals := 66 } : Room).slots) hW (show _ ≤ T92.heap.size from f102) (hsame.mono (by decide) (by decide))
        have qC : CHr Z own_EL s.vm s.heap T92.vm T92.heap := by rw [hh]; exact CH101.trans (CHv.at (show Stand p l e ({ frames := 4, cells := 6, slots := 12, locals := 66 } : Room) (s.setVm s.vm) m _ below meth c _ _ _ _ from X92) hZ hEL CH101.1)
        refine ⟨_, _, pre86 _ ?_, hrun, hended, _, _, rfl, ?_, qC, ⟨_, rfl⟩, qE.1, qE.2.1, qE.2.2⟩
        · show Steps _ _ _ (T82.setTop (mkF m 55 #[iv p0, iv c0, iv c1, iv c2, iv c3] [(.ref b71), (.ref b65), (.ref b65)])) _
          refine st92.trans ?_
          show Steps _ _ _ (T92.setTop (mkF m 58 #[iv p0, iv c0, iv c1, iv c2, iv c3] [(.ref b65)])) _
          exact retOut X92 hx Bd.returns rfl (Or.inr (Or.inr (Or.inr (Or.inr ⟨rfl, rfl, rfl⟩)))) (hb hby d1_58) hr
        · show Q_rmMk Z p0 c0 c1 c2 c3 zC h0 n0 _ T92.heap _
          exact ⟨b65, t_92, kt_92, rfl, N92, KK92, z65, f94, f95, f96, f97, (own_nmc2 hc37_63 f98)⟩
      · have pre104 : ∀ t, Steps p.tables e below (s₁.setTop (mkF m 61 #[iv p0, iv c0, iv c1, iv c2, iv c3] [(.int (3 : Int32)), (.int p0)])) t → Steps p.tables e below (s₁.setTop (entryFrame m #[(.int p0), (.int c0), (.int c1), (.int c2), (.int c3)] 5)) t := fun t kt => pre64 t (by
         refine XS.icmpYes X0.here hx rfl (pc0 := 37) (pc' := 59) rfl (hb hby d1_37) rfl (feq hc37_63).2 (by decide) (by decide) ?_
         refine XS.iloadN X0.here hx rfl (hb hby d1_59) rfl ?_
         refine XS.iconst X0.here hx rfl (hb hby d1_60) ?_
         exact kt)
        by_cases hc61_103 : p0 = (3 : Int32)
        · obtain ⟨T105, h105, X105, e105, E105, A105, D105, U105, st105⟩ := newO X0 hx hZ hown (own_g hw 6 rfl) (own_g hw 7 rfl) (own_g hw 8 rfl) e0 (g := (mkF m 64 #[iv p0, iv c0, iv c1, iv c2, iv c3] [])) rfl (hb hby d1_64) (by decide) (by decide)
          obtain ⟨b105, g105⟩ : ∃ z, z = h0.size := ⟨_, rfl⟩
          rw [← g105] at A105 D105 U105 st105
          have o105 : n0 ≤ b105 := Nat.le_trans Z0 (Nat.le_of_eq g105.symm)
          have z105 : h0.size ≤ b105 := Nat.le_trans (Keep.refl h0 []).1 (Nat.le_of_eq g105.symm)
          have CH106 : CHr Z own_EL s.vm h0 s.vm h105 := CH0.trans (CHr.ext E105 CH0.1)
          have Yb107 : Safe Z own_EL s.vm h105 b105 := Safe.ext E105 CH0.1 (Safe.new (Nat.le_of_eq g105.symm))
          have K105 : Keep h0 h105 [] := (Keep.refl h0 []).ext E105
          have f108 : Fld Z h105 b105 "java/lang/String" "value" "[B" .null := D105 (Or.inr (own_g hw 22 rfl)) (ty := (.array .byte)) (by decide)
          have f109 : Fld Z h105 b105 "java/lang/String" "coder" "B" (.int (0 : Int32)) := D105 (Or.inr (own_g hw 23 rfl)) (ty := .byte) (by decide)
          have f110 := (Nat.le_trans Z0 E105.1)
          obtain ⟨T111, h111, k111, X111, e111, E111, A111, st111⟩ := newP X105 hx hZ (own_g hw 9 rfl) e105 (g := (mkF m 69 #[iv p0, iv c0, iv c1, iv c2, iv c3] [(.int (3 : Int32)), (.ref b105), (.ref b105)])) rfl (hb hby d1_69) rfl (by decide) (cap := 3) (by decide) (by decide) (by decide) (by decide)
          obtain ⟨b111, g111⟩ : ∃ z, z = h105.size := ⟨_, rfl⟩
          rw [← g111] at A111 st111
          have ne112 : b105 ≠ b111 := Nat.ne_of_lt (Nat.lt_of_lt_of_le A105.lt (Nat.le_of_eq g111.symm))
          have o111 : n0 ≤ b111 := Nat.le_trans f110 (Nat.le_of_eq g111.symm)
          have z111 : h0.size ≤ b111 := Nat.le_trans K105.1 (Nat.le_of_eq g111.symm)
          have CH113 : CHr Z own_EL s.vm h0 s.vm h111 := CH106.trans (CHr.ext E111 CH106.1)
          have Yb114 : Safe Z own_EL s.vm h111 b111 := Safe.ext E111 CH106.1 (Safe.new (Nat.le_of_eq g111.symm))
          have K111 : Keep h0 h111 [] := K105.ext E111
          have V111 : Arv Z h111 b111 k111 .char (3 : Int32) [(.int (0 : Int32)), (.int (0 : Int32)), (.int (0 : Int32))] (.int (0 : Int32)) := (Arv.new A111 (by decide)).pad (pad_rep [] (.int (0 : Int32)) 3)
          obtain ⟨cl115, Ar115, qq115, S115, N115_, H115, G115⟩ := id V111
          have hin115 : ¬ ((0 : Int32) < 0 ∨ cl115.slots.size ≤ ((0 : Int32)).toNatClampNeg) := inb_of S115 ⟨by decide, by decide⟩
          obtain ⟨T116, h116, X116, e116, W116, st116⟩ := stC X111 hx hZ e111 Ar115 (j := (0 : Int32)) hin115 (g := (mkF m 74 #[iv p0, iv c0, iv c1, iv c2, iv c3] [(.int c0), (.int (0 : Int32)), (.ref b111), (.ref b111), (.ref b105), (.ref b105)])) rfl rfl (hb hby d1_74)
          have CH117 : CHr Z own_EL s.vm h0 s.vm h116 := CH113.trans (CHr.wr W116 Yb114 CH113.1)
          have V116 : Arv Z h116 b111 k111 .char (3 : Int32) [(.int c0), (.int (0 : Int32)), (.int (0 : Int32))] (.int (0 : Int32)) := by have q_ := Arv.set Ar115 qq115 S115 N115_ H115 G115 (fits_nar_char _) W116 0 rfl (Nat.le_of_ble_eq_true rfl); rw [own_nc hc0] at q_; exact q_
          have N118 := Fr.snoc X116 N0 o111
          have K119 : Keep h0 h116 [] := K111.wr W116 (Or.inr z111)
          have f120 : Safe Z own_EL s.vm h116 b111 := (Safe.wr W116 Yb114 CH113.1 Yb114)
          obtain ⟨cl121, Ar121, qq121, S121, N121_, H121, G121⟩ := id V116
          have hin121 : ¬ ((1 : Int32) < 0 ∨ cl121.slots.size ≤ ((1 : Int32)).toNatClampNeg) := inb_of S121 ⟨by decide, by decide⟩
          obtain ⟨T122, h122, X122, e122, W122, st122⟩ := stC X116 hx hZ e116 Ar121 (j := (1 : Int32)) hin121 (g := (mkF m 78 #[iv p0, iv c0, iv c1, iv c2, iv c3] [(.int c1), (.int (1 : Int32)), (.ref b111), (.ref b111), (.ref b105), (.ref b105)])) rfl rfl (hb hby d1_78)
          have CH123 : CHr Z own_EL s.vm h0 s.vm h122 := CH117.trans (CHr.wr W122 f120 CH117.1)
          have V122 : Arv Z h122 b111 k111 .char (3 : Int32) [(.int c0), (.int c1), (.int (0 : Int32))] (.int (0 : Int32)) := by have q_ := Arv.set Ar121 qq121 S121 N121_ H121 G121 (fits_nar_char _) W122 1 rfl (Nat.le_of_ble_eq_true rfl); rw [own_nc hc1] at q_; exact q_
          have N124 := Fr.snoc X122 N118 o111
          have K125 : Keep h0 h122 [] := K119.wr W122 (Or.inr z111)
          have f126 : Safe Z own_EL s.vm h122 b111 := (Safe.wr W122 f120 CH117.1 f120)
          obtain ⟨cl127, Ar127, qq127, S127, N127_, H127, G127⟩ := id V122
          have hin127 : ¬ ((2 : Int32) < 0 ∨ cl127.slots.size ≤ ((2 : Int32)).toNatClampNeg) := inb_of S127 ⟨by decide, by decide⟩
          obtain ⟨T128, h128, X128, e128, W128, st128⟩ := stC X122 hx hZ e122 Ar127 (j := (2 : Int32)) hin127 (g := (mkF m 82 #[iv p0, iv c0, iv c1, iv c2, iv c3] [(.int c2), (.int (2 : Int32)), (.ref b111), (.ref b111), (.ref b105), (.ref b105)])) rfl rfl (hb hby d1_82)
          have CH129 : CHr Z own_EL s.vm h0 s.vm h128 := CH123.trans (CHr.wr W128 f126 CH123.1)
          have V128 : Arv Z h128 b111 k111 .char (3 : Int32) [(.int c0), (.int c1), (.int c2)] (.int (0 : Int32)) := by have q_ := Arv.set Ar127 qq127 S127 N127_ H127 G127 (fits_nar_char _) W128 2 rfl (Nat.le_of_ble_eq_true rfl); rw [own_nc hc2] at q_; exact q_
          have N130 := Fr.snoc X128 N124 o111
          have K131 : Keep h0 h128 [] := K125.wr W128 (Or.inr z111)
          have pre132 : ∀ t, Steps p.tables e below (T128.setTop (mkF m 83 #[iv p0, iv c0, iv c1, iv c2, iv c3] [(.ref b111), (.ref b105), (.ref b105)])) t → Steps p.tables e below (s₁.setTop (entryFrame m #[(.int p0), (.int c0), (.int c1), (.int c2), (.int c3)] 5)) t := fun t kt => pre104 t (by
           refine XS.icmpNo X0.here hx rfl (hb hby d1_61) rfl (teq hc61_103).2 ?_
           refine st105 _ ?_
           refine XS.dup X105.here hx rfl (hb hby d1_67) rfl rfl ?_
           refine XS.iconst X105.here hx rfl (hb hby d1_68) ?_
           refine st111 _ ?_
           refine XS.dup X111.here hx rfl (hb hby d1_71) rfl rfl ?_
           refine XS.iconst X111.here hx rfl (hb hby d1_72) ?_
           refine XS.iloadN X111.here hx rfl (hb hby d1_73) rfl ?_
           refine st116 _ ?_
           refine XS.dup X116.here hx rfl (hb hby d1_75) rfl rfl ?_
           show Steps _ _ _ (T116.setTop (mkF m 76 #[iv p0, iv c0, iv c1, iv c2, iv c3] [(.ref b111), (.ref b111), (.ref b105), (.ref b105)])) _
           refine XS.iconst X116.here hx rfl (hb hby d1_76) ?_
           refine XS.iloadN X116.here hx rfl (hb hby d1_77) rfl ?_
           refine st122 _ ?_
           refine XS.dup X122.here hx rfl (hb hby d1_79) rfl rfl ?_
           refine XS.iconst X122.here hx rfl (hb hby d1_80) ?_
           refine XS.iloadN X122.here hx rfl (hb hby d1_81) rfl ?_
           refine st128 _ ?_
           exact kt)
          have f133 := ((((A105.ext E111).wr W116).wr W122).wr W128)
          have f134 := ((((f108.ext E111).other W116 (Or.inl ne112)).other W122 (Or.inl ne112)).other W128 (Or.inl ne112))
          have f135 := ((((f109.ext E111).other W116 (Or.inl ne112)).other W122 (Or.inl ne112)).other W128 (Or.inl ne112))
          have f136 := (((((P_S_String_COMPACT_STRINGS.ext E105).ext E111).wr W116).wr W122).wr W128)
          have f137 := (Nat.le_trans (Nat.le_trans (Nat.le_trans (Nat.le_trans f110 E111.1) (Keep.of_wr W116).1) (Keep.of_wr W122).1) (Keep.of_wr W128).1)
          obtain ⟨_, _, ⟨T138, L138, k138, n138⟩, -, X138, ⟨Lc138, hQ138, l138, y138, z138⟩, st138⟩ := X128.specialBack hx (y := own_y4) rfl hown (mvT hZ (own_g hw 10 rfl)) (mvT hZ (own_g hw 11 rfl)) (mvT hZ (own_g hw 12 rfl)) (by decide) (backOf (W := 1) (rmI1_3 l Z a0 hw [] b105 b111 k111 c0 c1 c2 zC h128 n0 f137 f133 f134 f135 V128 ne112 hc0 hc1 hc2 f136 hz o105) hZ (own_g hw 12 rfl) (own_g hw 8 rfl) (by decide) (by decide)) (g := (mkF m 83 #[iv p0, iv c0, iv c1, iv c2, iv c3] [(.ref b111), (.ref b105), (.ref b105)])) rfl (by rw [hml]; rfl) (Steps.refl _) (a := b105) (argsL := [(.ref b111)]) (rest := [(.ref b105)]) (lenOf pd___C_V rfl) rfl (by show 2 * 0 + _ ≤ _; exact Nat.le_of_eq rfl) (hb hby d1_83) (fun _ _ => ⟨rfl, e128, (by decide : 2 + 1 ≤ _), (by decide : 7 + 3 ≤ _)⟩)
          dsimp only [Pt.U, Pt.locs, Pt.cells, Pt.slots] at X138 l138 y138 z138 st138 hQ138
          subst l138 y138 z138
          have f139 : Safe Z own_EL s.vm h128 b105 := (Safe.wr W128 f126 CH123.1 (Safe.wr W122 f120 CH117.1 (Safe.wr W116 Yb114 CH113.1 (Safe.ext E111 CH106.1 Yb107))))
          obtain ⟨t_138, kt_138, rfl, N138q, K138, sx138_0, f140, f141, f142, f143, f144⟩ := hQ138
          have ot_138 : n0 ≤ t_138 := Nat.le_trans f137 sx138_0
          have zt_138 : h0.size ≤ t_138 := Nat.le_trans K131.1 sx138_0
          have ne145 : b105 ≠ t_138 := Nat.ne_of_lt (Nat.lt_of_lt_of_le f133.lt sx138_0)
          have ne146 : b111 ≠ t_138 := Nat.ne_of_lt (Nat.lt_of_lt_of_le V128.lt sx138_0)
          have KK138 : Keep h0 T138.heap [] := Keep.trans K131 K138 (allS (Or.inr z105) all0)
          have CH147 : CHr Z own_EL s.vm h0 s.vm T138.heap := CH129.trans (CHr.keep K138 (sfS f139 sf0) CH129.1)
          have N138 := Fr.app N130 N138q
          obtain ⟨fs, hr, hrun, hended, hW, hsame⟩ := X138.leave (v := some (.ref b105)) (fun h => by rw [Bd.returns] at h; cases h)
          have f148 := (Nat.le_trans (Nat.le_trans (Nat.le_trans (Nat.le_trans (Nat.le_trans (Nat.le_trans (Nat.le_refl h0.size) E105.1) E111.1) (Keep.of_wr W116).1) (Keep.of_wr W122).1) (Keep.of_wr W128).1) K138.1)
          have qE := hS0.ended (c := ({ frames := 4, cells := 6, slots := 12, locals := 66 } : Room).cells) (k := ({ frames := 4, cells := 6, slots := 12, locals := 66 } : Room).slots) hW (show _ ≤ T138.heap.size from f148) (hsame.mono (by decide) (by decide))
          have qC : CHr Z own_EL s.vm s.heap T138.vm T138.heap := by rw [hh]; exact CH147.trans (CHv.at (show Stand p l e ({ frames := 4, cells := 6, slots := 12, locals := 66 } : Room) (s.setVm s.vm) m _ below meth c _ _ _ _ from X138) hZ hEL CH147.1)
          refine ⟨_, _, pre132 _ ?_, hrun, hended, _, _, rfl, ?_, qC, ⟨_, rfl⟩, qE.1, qE.2.1, qE.2.2⟩
          · show Steps _ _ _ (T128.setTop (mkF m 83 #[iv p0, iv c0, iv c1, iv c2, iv c3] [(.ref b111), (.ref b105), (.ref b105)])) _
            refine st138.trans ?_
            show Steps _ _ _ (T138.setTop (mkF m 86 #[iv p0, iv c0, iv c1, iv c2, iv c3] [(.ref b105)])) _
            exact retOut X138 hx Bd.returns rfl (Or.inr (Or.inr (Or.inr (Or.inr ⟨rfl, rfl, rfl⟩)))) (hb hby d1_86) hr
          · show Q_rmMk Z p0 c0 c1 c2 c3 zC h0 n0 _ T138.heap _
            exact ⟨b105, t_138, kt_138, rfl, N138, KK138, z105, f140, f141, f142, f143, (own_nmc3 hc61_103 f144)⟩
        · obtain ⟨T149, h149, X149, e149, E149, A149, D149, U149, st149⟩ := newO X0 hx hZ hown (own_g hw 6 rfl) (own_g hw 7 rfl) (own_g hw 8 rfl) e0 (g := (mkF m 87 #[iv p0, iv c0, iv c1, iv c2, iv c3] [])) rfl (hb hby d1_87) (by decide) (by decide)
          obtain ⟨b149, g149⟩ : ∃ z, z = h0.size := ⟨_, rfl⟩
          rw [← g149] at A149 D149 U149 st149
          have o149 : n0 ≤ b149 := Nat.le_trans Z0 (Nat.le_of_eq g149.symm)
          have z149 : h0.size ≤ b149 := Nat.le_trans (Keep.refl h0 []).1 (Nat.le_of_eq g149.symm)
          have CH150 : CHr Z own_EL s.vm h0 s.vm h149 := CH0.trans (CHr.ext E149 CH0.1)
          have Yb151 : Safe Z own_EL s.vm h149 b149 := Safe.ext E149 CH0.1 (Safe.new (Nat.le_of_eq g149.symm))
          have K149 : Keep h0 h149 [] := (Keep.refl h0 []).ext E149
          have f152 : Fld Z h149 b149 "java/lang/String" "value" "[B" .null := D149 (Or.inr (own_g hw 22 rfl)) (ty := (.array .byte)) (by decide)
          have f153 : Fld Z h149 b149 "java/lang/String" "coder" "B" (.int (0 : Int32)) := D149 (Or.inr (own_g hw 23 rfl)) (ty := .byte) (by decide)
          have f154 := (Nat.le_trans Z0 E149.1)
          obtain ⟨T155, h155, k155, X155, e155, E155, A155, st155⟩ := newP X149 hx hZ (own_g hw 9 rfl) e149 (g := (mkF m 92 #[iv p0, iv c0, iv c1, iv c2, iv c3] [(.int (4 : Int32)), (.ref b149), (.ref b149)])) rfl (hb hby d1_92) rfl (by decide) (cap := 4) (by decide) (by decide) (by decide) (by decide)
          obtain ⟨b155, g155⟩ : ∃ z, z = h149.size := ⟨_, rfl⟩
          rw [← g155] at A155 st155
          have ne156 : b149 ≠ b155 := Nat.ne_of_lt (Nat.lt_of_lt_of_le A149.lt (Nat.le_of_eq g155.symm))
          have o155 : n0 ≤ b155 := Nat.le_trans f154 (Nat.le_of_eq g155.symm)
          have z155 : h0.size ≤ b155 := Nat.le_trans K149.1 (Nat.le_of_eq g155.symm)
          have CH157 : CHr Z own_EL s.vm h0 s.vm h155 := CH150.trans (CHr.ext E155 CH150.1)
          have Yb158 : Safe Z own_EL s.vm h155 b155 := Safe.ext E155 CH150.1 (Safe.new (Nat.le_of_eq g155.symm))
          have K155 : Keep h0 h155 [] := K149.ext E155
          have V155 : Arv Z h155 b155 k155 .char (4 : Int32) [(.int (0 : Int32)), (.int (0 : Int32)), (.int (0 : Int32)), (.int (0 : Int32))] (.int (0 : Int32)) := (Arv.new A155 (by decide)).pad (pad_rep [] (.int (0 : Int32)) 4)
          obtain ⟨cl159, Ar159, qq159, S159, N159_, H159, G159⟩ := id V155
          have hin159 : ¬ ((0 : Int32) < 0 ∨ cl159.slots.size ≤ ((0 : Int32)).toNatClampNeg) := inb_of S159 ⟨by decide, by decide⟩
          obtain ⟨T160, h160, X160, e160, W160, st160⟩ := stC X155 hx hZ e155 Ar159 (j := (0 : Int32)) hin159 (g := (mkF m 97 #[iv p0, iv c0, iv c1, iv c2, iv c3] [(.int c0), (.int (0 : Int32)), (.ref b155), (.ref b155), (.ref b149), (.ref b149)])) rfl rfl (hb hby d1_97)
          have CH161 : CHr Z own_EL s.vm h0 s.vm h160 := CH157.trans (CHr.wr W160 Yb158 CH157.1)
          have V160 : Arv Z h160 b155 k155 .char (4 : Int32) [(.int c0), (.int (0 : Int32)), (.int (0 : Int32)), (.int (0 : Int32))] (.int (0 : Int32)) := by have q_ := Arv.set Ar159 qq159 S159 N159_ H159 G159 (fits_nar_char _) W160 0 rfl (Nat.le_of_ble_eq_true rfl); rw [own_nc hc0] at q_; exact q_
          have N162 := Fr.snoc X160 N0 o155
          have K163 : Keep h0 h160 [] := K155.wr W160 (Or.inr z155)
          have f164 : Safe Z own_EL s.vm h160 b155 := (Safe.wr W160 Yb158 CH157.1 Yb158)
          obtain ⟨cl165, Ar165, qq165, S165, N165_, H165, G165⟩ := id V160
          have hin165 : ¬ ((1 : Int32) < 0 ∨ cl165.slots.size ≤ ((1 : Int32)).toNatClampNeg) := inb_of S165 ⟨by decide, by decide⟩
          obtain ⟨T166, h166, X166, e166, W166, st166⟩ := stC X160 hx hZ e160 Ar165 (j := (1 : Int32)) hin165 (g := (mkF m 101 #[iv p0, iv c0, iv c1, iv c2, iv c3] [(.int c1), (.int (1 : Int32)), (.ref b155), (.ref b155), (.ref b149), (.ref b149)])) rfl rfl (hb hby d1_101)
          have CH167 : CHr Z own_EL s.vm h0 s.vm h166 := CH161.trans (CHr.wr W166 f164 CH161.1)
          have V166 : Arv Z h166 b155 k155 .char (4 : Int32) [(.int c0), (.int c1), (.int (0 : Int32)), (.int (0 : Int32))] (.int (0 : Int32)) := by have q_ := Arv.set Ar165 qq165 S165 N165_ H165 G165 (fits_nar_char _) W166 1 rfl (Nat.le_of_ble_eq_true rfl); rw [own_nc hc1] at q_; exact q_
          have N168 := Fr.snoc X166 N162 o155
          have K169 : Keep h0 h166 [] := K163.wr W166 (Or.inr z155)
          have f170 : Safe Z own_EL s.vm h166 b155 := (Safe.wr W166 f164 CH161.1 f164)
          obtain ⟨cl171, Ar171, qq171, S171, N171_, H171, G171⟩ := id V166
          have hin171 : ¬ ((2 : Int32) < 0 ∨ cl171.slots.size ≤ ((2 : Int32)).toNatClampNeg) := inb_of S171 ⟨by decide, by decide⟩
          obtain ⟨T172, h172, X172, e172, W172, st172⟩ := stC X166 hx hZ e166 Ar171 (j := (2 : Int32)) hin171 (g := (mkF m 105 #[iv p0, iv c0, iv c1, iv c2, iv c3] [(.int c2), (.int (2 : Int32)), (.ref b155), (.ref b155), (.ref b149), (.ref b149)])) rfl rfl (hb hby d1_105)
          have CH173 : CHr Z own_EL s.vm h0 s.vm h172 := CH167.trans (CHr.wr W172 f170 CH167.1)
          have V172 : Arv Z h172 b155 k155 .char (4 : Int32) [(.int c0), (.int c1), (.int c2), (.int (0 : Int32))] (.int (0 : Int32)) := by have q_ := Arv.set Ar171 qq171 S171 N171_ H171 G171 (fits_nar_char _) W172 2 rfl (Nat.le_of_ble_eq_true rfl); rw [own_nc hc2] at q_; exact q_
          have N174 := Fr.snoc X172 N168 o155
          have K175 : Keep h0 h172 [] := K169.wr W172 (Or.inr z155)
          have f176 : Safe Z own_EL s.vm h172 b155 := (Safe.wr W172 f170 CH167.1 f170)
          obtain ⟨cl177, Ar177, qq177, S177, N177_, H177, G177⟩ := id V172
          have hin177 : ¬ ((3 : Int32) < 0 ∨ cl177.slots.size ≤ ((3 : Int32)).toNatClampNeg) := inb_of S177 ⟨by decide, by decide⟩
          obtain ⟨T178, h178, X178, e178, W178, st178⟩ := stC X172 hx hZ e172 Ar177 (j := (3 : Int32)) hin177 (g := (mkF m 110 #[iv p0, iv c0, iv c1, iv c2, iv c3] [(.int c3), (.int (3 : Int32)), (.ref b155), (.ref b155), (.ref b149), (.ref b149)])) rfl rfl (hb hby d1_110)
          have CH179 : CHr Z own_EL s.vm h0 s.vm h178 := CH173.trans (CHr.wr W178 f176 CH173.1)
          have V178 : Arv Z h178 b155 k155 .char (4 : Int32) [(.int c0), (.int c1), (.int c2), (.int c3)] (.int (0 : Int32)) := by have q_ := Arv.set Ar177 qq177 S177 N177_ H177 G177 (fits_nar_char _) W178 3 rfl (Nat.le_of_ble_eq_true rfl); rw [own_nc hc3] at q_; exact q_
          have N180 := Fr.snoc X178 N174 o155
          have K181 : Keep h0 h178 [] := K175.wr W178 (Or.inr z155)
          have pre182 : ∀ t, Steps p.tables e below (T178.setTop (mkF m 111 #[iv p0, iv c0, iv c1, iv c2, iv c3] [(.ref b155), (.ref b149), (.ref b149)])) t → Steps p.tables e below (s₁.setTop (entryFrame m #[(.int p0), (.int c0), (.int c1), (.int c2), (.int c3)] 5)) t := fun t kt => pre104 t (by
           refine XS.icmpYes X0.here hx rfl (pc0 := 61) (pc' := 87) rfl (hb hby d1_61) rfl (feq hc61_103).2 (by decide) (by decide) ?_
           refine st149 _ ?_
           refine XS.dup X149.here hx rfl (hb hby d1_90) rfl rfl ?_
           refine XS.iconst X149.here hx rfl (hb hby d1_91) ?_
           refine st155 _ ?_
           refine XS.dup X155.here hx rfl (hb hby d1_94) rfl rfl ?_
           refine XS.iconst X155.here hx rfl (hb hby d1_95) ?_
           refine XS.iloadN X155.here hx rfl (hb hby d1_96) rfl ?_
           refine st160 _ ?_
           refine XS.dup X160.here hx rfl (hb hby d1_98) rfl rfl ?_
           refine XS.iconst X160.here hx rfl (hb hby d1_99) ?_
           refine XS.iloadN X160.here hx rfl (hb hby d1_100) rfl ?_
           refine st166 _ ?_
           refine XS.dup X166.here hx rfl (hb hby d1_102) rfl rfl ?_
           refine XS.iconst X166.here hx rfl (hb hby d1_103) ?_
           refine XS.iloadN X166.here hx rfl (hb hby d1_104) rfl ?_
           refine st172 _ ?_
           show Steps _ _ _ (T172.setTop (mkF m 106 #[iv p0, iv c0, iv c1, iv c2, iv c3] [(.ref b155), (.ref b149), (.ref b149)])) _
           refine XS.dup X172.here hx rfl (hb hby d1_106) rfl rfl ?_
           refine XS.iconst X172.here hx rfl (hb hby d1_107) ?_
           refine XS.iload X172.here hx rfl (hb hby d1_108) rfl ?_
           refine st178 _ ?_
           exact kt)
          have f183 := (((((A149.ext E155).wr W160).wr W166).wr W172).wr W178)
          have f184 := (((((f152.ext E155).other W160 (Or.inl ne156)).other W166 (Or.inl ne156)).other W172 (Or.inl ne156)).other W178 (Or.inl ne156))
          have f185 := (((((f153.ext E155).other W160 (Or.inl ne156)).other W166 (Or.inl ne156)).other W172 (Or.inl ne156)).other W178 (Or.inl ne156))
          have f186 := ((((((P_S_String_COMPACT_STRINGS.ext E149).ext E155).wr W160).wr W166).wr W172).wr W178)
          have f187 := (Nat.le_trans (Nat.le_trans (Nat.le_trans (Nat.le_trans (Nat.le_trans f154 E155.1) (Keep.of_wr W160).1) (Keep.of_wr W166).1) (Keep.of_wr W172).1) (Keep.of_wr W178).1)
          obtain ⟨_, _, ⟨T188, L188, k188, n188⟩, -, X188, ⟨Lc188, hQ188, l188, y188, z188⟩, st188⟩ := X178.specialBack hx (y := own_y4) rfl hown (mvT hZ (own_g hw 10 rfl)) (mvT hZ (own_g hw 11 rfl)) (mvT hZ (own_g hw 12 rfl)) (by decide) (backOf (W := 1) (rmI1_4 l Z a0 hw [] b149 b155 k155 c0 c1 c2 c3 zC h178 n0 f187 f183 f184 f185 V178 ne156 hc0 hc1 hc2 hc3 f186 hz o149) hZ (own_g hw 12 rfl) (own_g hw 8 rfl) (by decide) (by decide)) (g := (mkF m 111 #[iv p0, iv c0, iv c1, iv c2, iv c3] [(.ref b155), (.ref b149), (.ref b149)])) rfl (by rw [hml]; rfl) (Steps.refl _) (a := b149) (argsL := [(.ref b155)]) (rest := [(.ref b149)]) (lenOf pd___C_V rfl) rfl (by show 2 * 0 + _ ≤ _; exact Nat.le_of_eq rfl) (hb hby d1_111) (fun _ _ => ⟨rfl, e178, (by decide : 2 + 1 ≤ _), (by decide : 8 + 4 ≤ _)⟩)
          dsimp only [Pt.U, Pt.locs, Pt.cells, Pt.slots] at X188 l188 y188 z188 st188 hQ188
          subst l188 y188 z188
          have f189 : Safe Z own_EL s.vm h178 b149 := (Safe.wr W178 f176 CH173.1 (Safe.wr W172 f170 CH167.1 (Safe.wr W166 f164 CH161.1 (Safe.wr W160 Yb158 CH157.1 (Safe.ext E155 CH150.1 Yb151)))))
          obtain ⟨t_188, kt_188, rfl, N188q, K188, sx188_0, f190, f191, f192, f193, f194⟩ := hQ188
          have ot_188 : n0 ≤ t_188 := Nat.le_trans f187 sx188_0
          have zt_188 : h0.size ≤ t_188 := Nat.le_trans K181.1 sx188_0
          have ne195 : b149 ≠ t_188 := Nat.ne_of_lt (Nat.lt_of_lt_of_le f183.lt sx188_0)
          have ne196 : b155 ≠ t_188 := Nat.ne_of_lt (Nat.lt_of_lt_of_le V178.lt sx188_0)
          have KK188 : Keep h0 T188.heap [] := Keep.trans K181 K188 (allS (Or.inr z149) all0)
          have CH197 : CHr Z own_EL s.vm h0 s.vm T188.heap := CH179.trans (CHr.keep K188 (sfS f189 sf0) CH179.1)
          have N188 := Fr.app N180 N188q
          obtain ⟨fs, hr, hrun, hended, hW, hsame⟩ := X188.leave (v := some (.ref b149)) (fun h => by rw [Bd.returns] at h; cases h)
          have f198 := (Nat.le_trans (Nat.le_trans (Nat.le_trans (Nat.le_trans (Nat.le_trans (Nat.le_trans (Nat.le_trans (Nat.le_refl h0.size) E149.1) E155.1) (Keep.of_wr W160).1) (Keep.of_wr W166).1) (Keep.of_wr W172).1) (Keep.of_wr W178).1) K188.1)
          have qE := hS0.ended (c := ({ frames := 4, cells := 6, slots := 12, locals := 66 } : Room).cells) (k := ({ frames := 4, cells := 6, slots := 12, locals := 66 } : Room).slots) hW (show _ ≤ T188.heap.size from f198) (hsame.mono (by decide) (by decide))
          have qC : CHr Z own_EL s.vm s.heap T188.vm T188.heap := by rw [hh]; exact CH197.trans (CHv.at (show Stand p l e ({ frames := 4, cells := 6, slots := 12, locals := 66 } : Room) (s.setVm s.vm) m _ below meth c _ _ _ _ from X188) hZ hEL CH197.1)
          refine ⟨_, _, pre182 _ ?_, hrun, hended, _, _, rfl, ?_, qC, ⟨_, rfl⟩, qE.1, qE.2.1, qE.2.2⟩
          · show Steps _ _ _ (T178.setTop (mkF m 111 #[iv p0, iv c0, iv c1, iv c2, iv c3] [(.ref b155), (.ref b149), (.ref b149)])) _
            refine st188.trans ?_
            show Steps _ _ _ (T188.setTop (mkF m 114 #[iv p0, iv c0, iv c1, iv c2, iv c3] [(.ref b149)])) _
            exact retOut X188 hx Bd.returns rfl (Or.inr (Or.inr (Or.inr (Or.inr ⟨rfl, rfl, rfl⟩)))) (hb hby d1_114) hr
          · show Q_rmMk Z p0 c0 c1 c2 c3 zC h0 n0 _ T188.heap _
            exact ⟨b149, t_188, kt_188, rfl, N188, KK188, z149, f190, f191, f192, f193, (own_nmc4 (own_n4 hn hc1_1 hc17_29 hc37_63 hc61_103) f194)⟩

theorem ef_rmCo (m : MethodId) (x0 : Addr) : entryFrame m #[(.ref x0)] 1 = mkF m 0 #[rv x0] [] := by first | (simp [entryFrame, mkF, argsToLocals, Value.category]; done) | rfl
set_option maxRecDepth 65536 in
set_option maxHeartbeats 40000000 in
theorem rmCo (l : Launch) (Z : State) (a0 : Array Value) (hw : ∀ d ∈ tables_1, d.before a0 Z = true) (ws : List Jvm.Cond) (u0 : Addr) (zC : Int32) (h0 : Heap) (n0 : Nat) (Z0 : n0 ≤ h0.size) (P_F_u0_String_coder : Fld Z h0 u0 "java/lang/String" "coder" "B" (.int (0 : Int32))) (P_S_String_COMPACT_STRINGS : Sta Z h0 "java/lang/String" "COMPACT_STRINGS" "Z" (.int zC)) (hz : ¬ (zC = (0 : Int32))) :
    own_MF l own_y6 (Jvm.Cond.code own_y6 jdk_42_method_152_code 1 (some .byte)) ws ({ frames := 0, cells := 0, slots := 0, locals := 0 } : Room) #[(.ref u0)] Z h0 (own_QP (some (.int (0 : Int32))) h0 n0) := by
  refine MetFree.of_bodySF (plainFor_of_name pn_7) hisR ?_
  intro p e s m args below meth c s₁ Bd hml0 hP hK
  obtain ⟨rfl, hZ, hh⟩ := hP
  have hx := Bd.exec
  have hby := Bd.bytes
  have hml : c.maxLocals = 1 := hml0
  have hown : s.vm.findClass "java/lang/String" = some m.cls := findClass_of_methodNamed Bd.named
  have hnm := (name_of_methodNamed Bd.named Bd.method).1
  have X0 : Stand p l e ({ frames := 0, cells := 0, slots := 0, locals := 0 } : Room) s m #[(.ref u0)] below meth c s₁ [] 0 0 := Stand.of_body Bd
  have e0 : s₁.heap = h0 := by rw [← hh, Bd.state]; rfl
  have N0 := Fr.nil n0
  have pre0 : ∀ t, Steps p.tables e below (s₁.setTop (mkF m 0 #[rv u0] [])) t → Steps p.tables e below (s₁.setTop (entryFrame m #[(.ref u0)] 1)) t := fun t k => castTop (ef_rmCo m u0) k
  obtain ⟨T1, X1, e1, st1⟩ := getS2 X0 hx hZ hown (host := "") (Or.inl (own_g hw 49 rfl)) Via.refl e0 P_S_String_COMPACT_STRINGS (g := (mkF m 0 #[rv u0] [])) rfl (hb hby d7_0)
  obtain ⟨T2, X2, e2, st2⟩ := getF X1 hx hZ hown (host := "") (Or.inl (own_g hw 27 rfl)) Via.refl e1 P_F_u0_String_coder (g := (mkF m 7 #[rv u0] [(.ref u0)])) rfl rfl (hb hby d7_7)
  obtain ⟨fs, hr, hrun, hended, hW, hsame⟩ := X2.leave (v := some (.int (0 : Int32))) (fun h => by rw [Bd.returns] at h; cases h)
  refine ⟨_, _, pre0 _ ?_, hrun, hended, _, _, rfl, ?_, ⟨_, rfl⟩, hW, hsame.mono (by decide) (by decide)⟩
  · refine st1 _ ?_
    refine XS.ifNo X1.here hx rfl (hb hby d7_3) rfl ((if0 _ _).trans (feq hz).1) ?_
    refine XS.aloadN X1.here hx rfl (hb hby d7_6) rfl rfl ?_
    refine st2 _ ?_
    refine XS.goto X2.here hx rfl (pc0 := 10) (pc' := 14) rfl (hb hby d7_10) (by decide) (by decide) ?_
    show Steps _ _ _ (T2.setTop (mkF m 14 #[rv u0] [(.int (0 : Int32))])) _
    exact retN X2 hx (t := .byte) Bd.returns (by simp) (hb hby d7_14) hr
  · show own_QP (some (.int (0 : Int32))) h0 n0 _ T2.heap _
    rw [e2]
    exact ⟨rfl, N0, rfl⟩

theorem ef_rmLa (m : MethodId) (x0 : Addr) : entryFrame m #[(.ref x0)] 1 = mkF m 0 #[rv x0] [] := by first | (simp [entryFrame, mkF, argsToLocals, Value.category]; done) | rfl
set_option maxRecDepth 65536 in
set_option maxHeartbeats 40000000 in
theorem rmLa (l : Launch) (Z : State) (a0 : Array Value) (hw : ∀ d ∈ tables_1, d.before a0 Z = true) (ws : List Jvm.Cond) (u0 : Addr) (zC : Int32) (h0 : Heap) (n0 : Nat) (Z0 : n0 ≤ h0.size) (P_F_u0_String_coder : Fld Z h0 u0 "java/lang/String" "coder" "B" (.int (0 : Int32))) (P_S_String_COMPACT_STRINGS : Sta Z h0 "java/lang/String" "COMPACT_STRINGS" "Z" (.int zC)) (hz : ¬ (zC = (0 : Int32))) :
    own_MF l own_y7 (Jvm.Cond.code own_y7 jdk_42_method_154_code 1 (some .boolean)) ws ({ frames := 0, cells := 0, slots := 0, locals := 0 } : Room) #[(.ref u0)] Z h0 (own_QP (some (.int (1 : Int32))) h0 n0) := by
  refine MetFree.of_bodySF (plainFor_of_name pn_13) hisR ?_
  intro p e s m args below meth c s₁ Bd hml0 hP hK
  obtain ⟨rfl, hZ, hh⟩ := hP
  have hx := Bd.exec
  have hby := Bd.bytes
  have hml : c.maxLocals = 1 := hml0
  have hown : s.vm.findClass "java/lang/String" = some m.cls := findClass_of_methodNamed Bd.named
  have hnm := (name_of_methodNamed Bd.named Bd.method).1
  have X0 : Stand p l e ({ frames := 0, cells := 0, slots := 0, locals := 0 } : Room) s m #[(.ref u0)] below meth c s₁ [] 0 0 := Stand.of_body Bd
  have e0 : s₁.heap = h0 := by rw [← hh, Bd.state]; rfl
  have N0 := Fr.nil n0
  have pre0 : ∀ t, Steps p.tables e below (s₁.setTop (mkF m 0 #[rv u0] [])) t → Steps p.tables e below (s₁.setTop (entryFrame m #[(.ref u0)] 1)) t := fun t k => castTop (ef_rmLa m u0) k
  obtain ⟨T1, X1, e1, st1⟩ := getS2 X0 hx hZ hown (host := "") (Or.inl (own_g hw 49 rfl)) Via.refl e0 P_S_String_COMPACT_STRINGS (g := (mkF m 0 #[rv u0] [])) rfl (hb hby d13_0)
  obtain ⟨T2, X2, e2, st2⟩ := getF X1 hx hZ hown (host := "") (Or.inl (own_g hw 27 rfl)) Via.refl e1 P_F_u0_String_coder (g := (mkF m 7 #[rv u0] [(.ref u0)])) rfl rfl (hb hby d13_7)
  obtain ⟨fs, hr, hrun, hended, hW, hsame⟩ := X2.leave (v := some (.int (1 : Int32))) (fun h => by rw [Bd.returns] at h; cases h)
  refine ⟨_, _, pre0 _ ?_, hrun, hended, _, _, rfl, ?_, ⟨_, rfl⟩, hW, hsame.mono (by decide) (by decide)⟩
  · refine st1 _ ?_
    refine XS.ifNo X1.here hx rfl (hb hby d13_3) rfl ((if0 _ _).trans (feq hz).1) ?_
    refine XS.aloadN X1.here hx rfl (hb hby d13_6) rfl rfl ?_
    refine st2 _ ?_
    refine XS.ifNo X2.here hx rfl (hb hby d13_10) rfl ((if0 _ _).trans (teq (by decide : (0 : Int32) = (0 : Int32))).2) ?_
    refine XS.iconst X2.here hx rfl (hb hby d13_13) ?_
    refine XS.goto X2.here hx rfl (pc0 := 14) (pc' := 18) rfl (hb hby d13_14) (by decide) (by decide) ?_
    show Steps _ _ _ (T2.setTop (mkF m 18 #[rv u0] [(.int (1 : Int32))])) _
    exact retN X2 hx (t := .boolean) Bd.returns (by simp) (hb hby d13_18) hr
  · show own_QP (some (.int (1 : Int32))) h0 n0 _ T2.heap _
    rw [e2]
    exact ⟨rfl, N0, rfl⟩

theorem ef_rmLe (m : MethodId) (x0 : Addr) : entryFrame m #[(.ref x0)] 1 = mkF m 0 #[rv x0] [] := by first | (simp [entryFrame, mkF, argsToLocals, Value.category]; done) | rfl
set_option maxRecDepth 65536 in
set_option maxHeartbeats 40000000 in
theorem rmLe (l : Launch) (Z : State) (a0 : Array Value) (hw : ∀ d ∈ tables_1, d.before a0 Z = true) (ws : List Jvm.Cond) (u0 : Addr) (tv : Addr) (kt : ClassId) (z : Int32) (vs : List Value) (zC : Int32) (h0 : Heap) (n0 : Nat) (Z0 : n0 ≤ h0.size) (P_E_u0 : Exa Z h0 u0 "java/lang/String") (P_F_u0_String_value : Fld Z h0 u0 "java/lang/String" "value" "[B" (.ref tv)) (P_F_u0_String_coder : Fld Z h0 u0 "java/lang/String" "coder" "B" (.int (0 : Int32))) (P_G_tv : Arv Z h0 tv kt .byte z vs (.int 0)) (P_S_String_COMPACT_STRINGS : Sta Z h0 "java/lang/String" "COMPACT_STRINGS" "Z" (.int zC)) (hz : ¬ (zC = (0 : Int32))) :
    own_MF l own_y8 (Jvm.Cond.code own_y8 jdk_42_method_54_code 1 (some .int)) ws ({ frames := 1, cells := 0, slots := 0, locals := 13 } : Room) #[(.ref u0)] Z h0 (own_QP (some (.int z)) h0 n0) := by
  refine MetFree.of_bodySF (plainFor_of_name pn_14) hisR ?_
  intro p e s m args below meth c s₁ Bd hml0 hP hK
  obtain ⟨rfl, hZ, hh⟩ := hP
  have hx := Bd.exec
  have hby := Bd.bytes
  have hml : c.maxLocals = 1 := hml0
  have hown : s.vm.findClass "java/lang/String" = some m.cls := findClass_of_methodNamed Bd.named
  have hnm := (name_of_methodNamed Bd.named Bd.method).1
  have X0 : Stand p l e ({ frames := 1, cells := 0, slots := 0, locals := 13 } : Room) s m #[(.ref u0)] below meth c s₁ [] 0 0 := Stand.of_body Bd
  have e0 : s₁.heap = h0 := by rw [← hh, Bd.state]; rfl
  have N0 := Fr.nil n0
  have pre0 : ∀ t, Steps p.tables e below (s₁.setTop (mkF m 0 #[rv u0] [])) t → Steps p.tables e below (s₁.setTop (entryFrame m #[(.ref u0)] 1)) t := fun t k => castTop (ef_rmLe m u0) k
  obtain ⟨T1, X1, e1, st1⟩ := getF X0 hx hZ hown (host := "") (Or.inl (own_g hw 26 rfl)) Via.refl e0 P_F_u0_String_value (g := (mkF m 1 #[rv u0] [(.ref u0)])) rfl rfl (hb hby d14_1)
  obtain ⟨cl2, Ar2, qq2, S2, N2_, H2, G2⟩ := id P_G_tv
  obtain ⟨cq4, kq4, q4a, q4b, q4c⟩ := isOf hZ e1 P_E_u0
  obtain ⟨_, _, ⟨T3, L3, k3, n3⟩, -, X3, ⟨Lc3, hQ3, l3, y3, z3⟩, st3⟩ := X1.virtualBack hx (y := own_y6) (z := own_y6) hown (mvT hZ (own_g hw 44 rfl)) (mvT hZ (own_g hw 45 rfl)) (notFace_of_selects (args := #[]) (mvT hZ (own_g hw 47 rfl))) (mvT hZ (own_g hw 47 rfl)) (mvT hZ (own_g hw 46 rfl)) (by decide) (backOf (W := 1) (rmCo l Z a0 hw [] u0 zC h0 n0 Z0 P_F_u0_String_coder P_S_String_COMPACT_STRINGS hz) hZ (own_g hw 48 rfl) (own_g hw 8 rfl) (by decide) (by decide)) q4a q4c (g := (mkF m 6 #[rv u0] [(.ref u0), (.int z)])) rfl (by rw [hml]; rfl) (Steps.refl _) (argsL := []) (rest := [(.int z)]) (lenOf pd___B rfl) rfl (by show 2 * 0 + _ ≤ _; exact Nat.le_of_eq rfl) (hb hby d14_6) (fun _ _ => ⟨rfl, e1, (by decide : 0 + 0 ≤ _), (by decide : 0 + 0 ≤ _)⟩)
  dsimp only [Pt.U, Pt.locs, Pt.cells, Pt.slots] at X3 l3 y3 z3 st3 hQ3
  subst l3 y3 z3
  obtain ⟨rfl, N3q, e3⟩ := hQ3
  have N3 := Fr.app N0 N3q
  obtain ⟨fs, hr, hrun, hended, hW, hsame⟩ := X3.leave (v := some (.int (z >>> ((0 : Int32) &&& 31)))) (fun h => by rw [Bd.returns] at h; cases h)
  refine ⟨_, _, pre0 _ ?_, hrun, hended, _, _, rfl, ?_, ⟨_, rfl⟩, hW, hsame.mono (by decide) (by decide)⟩
  · refine XS.aloadN X0.here hx rfl (hb hby d14_0) rfl rfl ?_
    refine st1 _ ?_
    refine X1.arraylength hx (by rw [e1]; exact Ar2.1) (State.isArrayOf_alike hZ.alike Ar2.2.1) (g := (mkF m 4 #[rv u0] [(.ref tv)])) rfl rfl (hb hby d14_4) _ ?_
    rw [len_of S2 N2_]
    refine XS.aloadN X1.here hx rfl (hb hby d14_5) rfl rfl ?_
    show Steps _ _ _ (T1.setTop (mkF m 6 #[rv u0] [(.ref u0), (.int z)])) _
    refine st3.trans ?_
    refine XS.ishr X3.here hx rfl (hb hby d14_9) rfl ?_
    show Steps _ _ _ (T3.setTop (mkF m 10 #[rv u0] [(.int (z >>> ((0 : Int32) &&& 31)))])) _
    exact retI X3 hx Bd.returns (hb hby d14_10) hr
  · show own_QP (some (.int z)) h0 n0 _ T3.heap _
    rw [e3]
    exact ⟨(congrArg (fun q => some (Value.int q)) (own_shr0 z)), N3, rfl⟩

theorem ef_rmMx (m : MethodId) (x0 : Int32) (x1 : Int32) : entryFrame m #[(.int x0), (.int x1)] 2 = mkF m 0 #[iv x0, iv x1] [] := by first | (simp [entryFrame, mkF, argsToLocals, Value.category]; done) | rfl
set_option maxRecDepth 65536 in
set_option maxHeartbeats 40000000 in
theorem rmMx (l : Launch) (Z : State) (a0 : Array Value) (hw : ∀ d ∈ tables_1, d.before a0 Z = true) (ws : List Jvm.Cond) (p0 : Int32) (p1 : Int32) (h0 : Heap) (n0 : Nat) (Z0 : n0 ≤ h0.size) (hm : ¬ p0 < p1) :
    own_MF l own_y9 (Jvm.Cond.code own_y9 jdk_29_method_65_code 2 (some .int)) ws ({ frames := 0, cells := 0, slots := 0, locals := 0 } : Room) #[(.int p0), (.int p1)] Z h0 (own_QP (some (.int p0)) h0 n0) := by
  refine MetFree.of_bodySF (Jvm.Free.JP.mathPlain rfl (by decide +kernel)) hisR ?_
  intro p e s m args below meth c s₁ Bd hml0 hP hK
  obtain ⟨rfl, hZ, hh⟩ := hP
  have hx := Bd.exec
  have hby := Bd.bytes
  have hml : c.maxLocals = 2 := hml0
  have hown : s.vm.findClass "java/lang/Math" = some m.cls := findClass_of_methodNamed Bd.named
  have hnm := (name_of_methodNamed Bd.named Bd.method).1
  have X0 : Stand p l e ({ frames := 0, cells := 0, slots := 0, locals := 0 } : Room) s m #[(.int p0), (.int p1)] below meth c s₁ [] 0 0 := Stand.of_body Bd
  have e0 : s₁.heap = h0 := by rw [← hh, Bd.state]; rfl
  have N0 := Fr.nil n0
  have pre0 : ∀ t, Steps p.tables e below (s₁.setTop (mkF m 0 #[iv p0, iv p1] [])) t → Steps p.tables e below (s₁.setTop (entryFrame m #[(.int p0), (.int p1)] 2)) t := fun t k => castTop (ef_rmMx m p0 p1) k
  obtain ⟨fs, hr, hrun, hended, hW, hsame⟩ := X0.leave (v := some (.int p0)) (fun h => by rw [Bd.returns] at h; cases h)
  refine ⟨_, _, pre0 _ ?_, hrun, hended, _, _, rfl, ?_, ⟨_, rfl⟩, hW, hsame.mono (by decide) (by decide)⟩
  · refine XS.iloadN X0.here hx rfl (hb hby d17_0) rfl ?_
    refine XS.iloadN X0.here hx rfl (hb hby d17_1) rfl ?_
    refine XS.icmpNo X0.here hx rfl (hb hby d17_2) rfl (flt hm).1 ?_
    refine XS.iloadN X0.here hx rfl (hb hby d17_5) rfl ?_
    refine XS.goto X0.here hx rfl (pc0 := 6) (pc' := 10) rfl (hb hby d17_6) (by decide) (by decide) ?_
    show Steps _ _ _ (s₁.setTop (mkF m 10 #[iv p0, iv p1] [(.int p0)])) _
    exact retI X0 hx Bd.returns (hb hby d17_10) hr
  · show own_QP (some (.int p0)) h0 n0 _ s₁.heap _
    rw [e0]
    exact ⟨rfl, N0, rfl⟩

theorem ef_rmMi (m : MethodId) (x0 : Int32) (x1 : Int32) : entryFrame m #[(.int x0), (.int x1)] 2 = mkF m 0 #[iv x0, iv x1] [] := by first | (simp [entryFrame, mkF, argsToLocals, Value.category]; done) | rfl
set_option maxRecDepth 65536 in
set_option maxHeartbeats 40000000 in
theorem rmMi (l : Launch) (Z : State) (a0 : Array Value) (hw : ∀ d ∈ tables_1, d.before a0 Z = true) (ws : List Jvm.Cond) (p0 : Int32) (p1 : Int32) (h0 : Heap) (n0 : Nat) (Z0 : n0 ≤ h0.size) :
    own_MF l own_y10 (Jvm.Cond.code own_y10 jdk_29_method_69_code 2 (some .int)) ws ({ frames := 0, cells := 0, slots := 0, locals := 0 } : Room) #[(.int p0), (.int p1)] Z h0 (own_QP (some (.int (own_min p0 p1))) h0 n0) := by
  refine MetFree.of_bodySF (Jvm.Free.JP.mathPlain rfl (by decide +kernel)) hisR ?_
  intro p e s m args below meth c s₁ Bd hml0 hP hK
  obtain ⟨rfl, hZ, hh⟩ := hP
  have hx := Bd.exec
  have hby := Bd.bytes
  have hml : c.maxLocals = 2 := hml0
  have hown : s.vm.findClass "java/lang/Math" = some m.cls := findClass_of_methodNamed Bd.named
  have hnm := (name_of_methodNamed Bd.named Bd.method).1
  have X0 : Stand p l e ({ frames := 0, cells := 0, slots := 0, locals := 0 } : Room) s m #[(.int p0), (.int p1)] below meth c s₁ [] 0 0 := Stand.of_body Bd
  have e0 : s₁.heap = h0 := by rw [← hh, Bd.state]; rfl
  have N0 := Fr.nil n0
  have pre0 : ∀ t, Steps p.tables e below (s₁.setTop (mkF m 0 #[iv p0, iv p1] [])) t → Steps p.tables e below (s₁.setTop (entryFrame m #[(.int p0), (.int p1)] 2)) t := fun t k => castTop (ef_rmMi m p0 p1) k
  have pre2 : ∀ t, Steps p.tables e below (s₁.setTop (mkF m 2 #[iv p0, iv p1] [(.int p1), (.int p0)])) t → Steps p.tables e below (s₁.setTop (entryFrame m #[(.int p0), (.int p1)] 2)) t := fun t kt => pre0 t (by
   refine XS.iloadN X0.here hx rfl (hb hby d18_0) rfl ?_
   refine XS.iloadN X0.here hx rfl (hb hby d18_1) rfl ?_
   exact kt)
  by_cases hc2_1 : p1 < p0
  · obtain ⟨fs, hr, hrun, hended, hW, hsame⟩ := X0.leave (v := some (.int p1)) (fun h => by rw [Bd.returns] at h; cases h)
    refine ⟨_, _, pre2 _ ?_, hrun, hended, _, _, rfl, ?_, ⟨_, rfl⟩, hW, hsame.mono (by decide) (by decide)⟩
    · refine XS.icmpYes X0.here hx rfl (pc0 := 2) (pc' := 9) rfl (hb hby d18_2) rfl (tlt hc2_1).2.2.1 (by decide) (by decide) ?_
      refine XS.iloadN X0.here hx rfl (hb hby d18_9) rfl ?_
      show Steps _ _ _ (s₁.setTop (mkF m 10 #[iv p0, iv p1] [(.int p1)])) _
      exact retI X0 hx Bd.returns (hb hby d18_10) hr
    · show own_QP (some (.int (own_min p0 p1))) h0 n0 _ s₁.heap _
      rw [e0]
      exact ⟨(congrArg (fun q => some (Value.int q)) (by unfold own_min; rw [if_pos hc2_1])), N0, rfl⟩
  · obtain ⟨fs, hr, hrun, hended, hW, hsame⟩ := X0.leave (v := some (.int p0)) (fun h => by rw [Bd.returns] at h; cases h)
    refine ⟨_, _, pre2 _ ?_, hrun, hended, _, _, rfl, ?_, ⟨_, rfl⟩, hW, hsame.mono (by decide) (by decide)⟩
    · refine XS.icmpNo X0.here hx rfl (hb hby d18_2) rfl (flt hc2_1).2.2.1 ?_
      refine XS.iloadN X0.here hx rfl (hb hby d18_5) rfl ?_
      refine XS.goto X0.here hx rfl (pc0 := 6) (pc' := 10) rfl (hb hby d18_6) (by decide) (by decide) ?_
      show Steps _ _ _ (s₁.setTop (mkF m 10 #[iv p0, iv p1] [(.int p0)])) _
      exact retI X0 hx Bd.returns (hb hby d18_10) hr
    · show own_QP (some (.int (own_min p0 p1))) h0 n0 _ s₁.heap _
      rw [e0]
      exact ⟨(congrArg (fun q => some (Value.int q)) (by unfold own_min; rw [if_neg hc2_1])), N0, rfl⟩

theorem ef_rmCE (m : MethodId) (x0 : Int32) : entryFrame m #[(.int x0)] 1 = mkF m 0 #[iv x0] [] := by first | (simp [entryFrame, mkF, argsToLocals, Value.category]; done) | rfl
set_option maxRecDepth 65536 in
set_option maxHeartbeats 40000000 in
theorem rmCE (l : Launch) (Z : State) (a0 : Array Value) (hw : ∀ d ∈ tables_1, d.before a0 Z = true) (ws : List Jvm.Cond)  (h0 : Heap) (n0 : Nat) (Z0 : n0 ≤ h0.size) :
    own_MF l own_y11 (Jvm.Cond.code own_y11 jdk_43_method_4_code 1 (some .boolean)) ws ({ frames := 0, cells := 0, slots := 0, locals := 0 } : Room) #[(.int (58 : Int32))] Z h0 (own_QP (some (.int (1 : Int32))) h0 n0) := by
  refine MetFree.of_bodySF (plainFor_of_name pn_16) hisR ?_
  intro p e s m args below meth c s₁ Bd hml0 hP hK
  obtain ⟨rfl, hZ, hh⟩ := hP
  have hx := Bd.exec
  have hby := Bd.bytes
  have hml : c.maxLocals = 1 := hml0
  have hown : s.vm.findClass "java/lang/StringLatin1" = some m.cls := findClass_of_methodNamed Bd.named
  have hnm := (name_of_methodNamed Bd.named Bd.method).1
  have X0 : Stand p l e ({ frames := 0, cells := 0, slots := 0, locals := 0 } : Room) s m #[(.int (58 : Int32))] below meth c s₁ [] 0 0 := Stand.of_body Bd
  have e0 : s₁.heap = h0 := by rw [← hh, Bd.state]; rfl
  have N0 := Fr.nil n0
  have pre0 : ∀ t, Steps p.tables e below (s₁.setTop (mkF m 0 #[iv (58 : Int32)] [])) t → Steps p.tables e below (s₁.setTop (entryFrame m #[(.int (58 : Int32))] 1)) t := fun t k => castTop (ef_rmCE m (58 : Int32)) k
  obtain ⟨fs, hr, hrun, hended, hW, hsame⟩ := X0.leave (v := some (.int (1 : Int32))) (fun h => by rw [Bd.returns] at h; cases h)
  refine ⟨_, _, pre0 _ ?_, hrun, hended, _, _, rfl, ?_, ⟨_, rfl⟩, hW, hsame.mono (by decide) (by decide)⟩
  · refine XS.iloadN X0.here hx rfl (hb hby d16_0) rfl ?_
    refine XS.ifNo X0.here hx rfl (hb hby d16_1) rfl ((if0 _ _).trans (flt (by decide : ¬ ((58 : Int32) < (0 : Int32)))).1) ?_
    refine XS.iloadN X0.here hx rfl (hb hby d16_4) rfl ?_
    refine XS.sipush X0.here hx rfl (hb hby d16_5) ?_
    refine XS.icmpNo X0.here hx rfl (hb hby d16_8) rfl (flt (by decide : ¬ ((255 : Int32) < (58 : Int32)))).2.2.1 ?_
    refine XS.iconst X0.here hx rfl (hb hby d16_11) ?_
    refine XS.goto X0.here hx rfl (pc0 := 12) (pc' := 16) rfl (hb hby d16_12) (by decide) (by decide) ?_
    show Steps _ _ _ (s₁.setTop (mkF m 16 #[iv (58 : Int32)] [(.int (1 : Int32))])) _
    exact retN X0 hx (t := .boolean) Bd.returns (by simp) (hb hby d16_16) hr
  · show own_QP (some (.int (1 : Int32))) h0 n0 _ s₁.heap _
    rw [e0]
    exact ⟨rfl, N0, rfl⟩

theorem ef_rmCk (m : MethodId) (x0 : Int32) (x1 : Int32) : entryFrame m #[(.int x0), (.int x1)] 2 = mkF m 0 #[iv x0, iv x1] [] := by first | (simp [entryFrame, mkF, argsToLocals, Value.category]; done) | rfl
set_option maxRecDepth 65536 in
set_option maxHeartbeats 40000000 in
theorem rmCk (l : Launch) (Z : State) (a0 : Array Value) (hw : ∀ d ∈ tables_1, d.before a0 Z = true) (ws : List Jvm.Cond) (p0 : Int32) (p1 : Int32) (h0 : Heap) (n0 : Nat) (Z0 : n0 ≤ h0.size) (hl : ¬ p1 < p0) :
    own_MF l own_y12 (Jvm.Cond.code own_y12 jdk_65_method_131_code 2 none) ws ({ frames := 0, cells := 0, slots := 0, locals := 0 } : Room) #[(.int p0), (.int p1)] Z h0 (own_QP none h0 n0) := by
  refine MetFree.of_bodySF (plainFor_of_name pn_32) hisR ?_
  intro p e s m args below meth c s₁ Bd hml0 hP hK
  obtain ⟨rfl, hZ, hh⟩ := hP
  have hx := Bd.exec
  have hby := Bd.bytes
  have hml : c.maxLocals = 2 := hml0
  have hown : s.vm.findClass "java/util/Arrays" = some m.cls := findClass_of_methodNamed Bd.named
  have hnm := (name_of_methodNamed Bd.named Bd.method).1
  have X0 : Stand p l e ({ frames := 0, cells := 0, slots := 0, locals := 0 } : Room) s m #[(.int p0), (.int p1)] below meth c s₁ [] 0 0 := Stand.of_body Bd
  have e0 : s₁.heap = h0 := by rw [← hh, Bd.state]; rfl
  have N0 := Fr.nil n0
  have pre0 : ∀ t, Steps p.tables e below (s₁.setTop (mkF m 0 #[iv p0, iv p1] [])) t → Steps p.tables e below (s₁.setTop (entryFrame m #[(.int p0), (.int p1)] 2)) t := fun t k => castTop (ef_rmCk m p0 p1) k
  obtain ⟨fs, hr, hrun, hended, hW, hsame⟩ := X0.leave (v := none) (fun _ => rfl)
  refine ⟨_, _, pre0 _ ?_, hrun, hended, _, _, rfl, ?_, ⟨_, rfl⟩, hW, hsame.mono (by decide) (by decide)⟩
  · refine XS.iloadN X0.here hx rfl (hb hby d32_0) rfl ?_
    refine XS.iloadN X0.here hx rfl (hb hby d32_1) rfl ?_
    refine XS.icmpYes X0.here hx rfl (pc0 := 2) (pc' := 37) rfl (hb hby d32_2) rfl (flt hl).2.1 (by decide) (by decide) ?_
    show Steps _ _ _ (s₁.setTop (mkF m 37 #[iv p0, iv p1] [])) _
    exact X0.returnOut hx Bd.returns (hb hby d32_37) hr
  · show own_QP none h0 n0 _ s₁.heap _
    rw [e0]
    exact ⟨rfl, N0, rfl⟩

theorem ef_rmPI0 (m : MethodId) (x0 : Int32) (x1 : Int32) (x2 : Addr) : entryFrame m #[(.int x0), (.int x1), (.ref x2)] 3 = mkF m 0 #[iv x0, iv x1, rv x2] [] := by first | (simp [entryFrame, mkF, argsToLocals, Value.category]; done) | rfl
set_option maxRecDepth 65536 in
set_option maxHeartbeats 40000000 in
theorem rmPI0 (l : Launch) (Z : State) (a0 : Array Value) (hw : ∀ d ∈ tables_1, d.before a0 Z = true) (ws : List Jvm.Cond) (p0 : Int32) (p1 : Int32) (u2 : Addr) (h0 : Heap) (n0 : Nat) (Z0 : n0 ≤ h0.size) (hi0 : ¬ p0 < 0) (hi1 : p0 < p1) :
    own_MF l own_y13 (Jvm.Cond.code own_y13 jdk_41_method_11_code 3 (some .int)) ws ({ frames := 0, cells := 0, slots := 0, locals := 0 } : Room) #[(.int p0), (.int p1), (.ref u2)] Z h0 (own_QP (some (.int p0)) h0 n0) := by
  refine MetFree.of_bodySF (plainFor_of_name pn_38) hisR ?_
  intro p e s m args below meth c s₁ Bd hml0 hP hK
  obtain ⟨rfl, hZ, hh⟩ := hP
  have hx := Bd.exec
  have hby := Bd.bytes
  have hml : c.maxLocals = 3 := hml0
  have hown : s.vm.findClass "jdk/internal/util/Preconditions" = some m.cls := findClass_of_methodNamed Bd.named
  have hnm := (name_of_methodNamed Bd.named Bd.method).1
  have X0 : Stand p l e ({ frames := 0, cells := 0, slots := 0, locals := 0 } : Room) s m #[(.int p0), (.int p1), (.ref u2)] below meth c s₁ [] 0 0 := Stand.of_body Bd
  have e0 : s₁.heap = h0 := by rw [← hh, Bd.state]; rfl
  have N0 := Fr.nil n0
  have pre0 : ∀ t, Steps p.tables e below (s₁.setTop (mkF m 0 #[iv p0, iv p1, rv u2] [])) t → Steps p.tables e below (s₁.setTop (entryFrame m #[(.int p0), (.int p1), (.ref u2)] 3)) t := fun t k => castTop (ef_rmPI0 m p0 p1 u2) k
  obtain ⟨fs, hr, hrun, hended, hW, hsame⟩ := X0.leave (v := some (.int p0)) (fun h => by rw [Bd.returns] at h; cases h)
  refine ⟨_, _, pre0 _ ?_, hrun, hended, _, _, rfl, ?_, ⟨_, rfl⟩, hW, hsame.mono (by decide) (by decide)⟩
  · refine XS.iloadN X0.here hx rfl (hb hby d38_0) rfl ?_
    refine XS.ifNo X0.here hx rfl (hb hby d38_1) rfl ((if0 _ _).trans (flt hi0).1) ?_
    refine XS.iloadN X0.here hx rfl (hb hby d38_4) rfl ?_
    refine XS.iloadN X0.here hx rfl (hb hby d38_5) rfl ?_
    refine XS.icmpYes X0.here hx rfl (pc0 := 6) (pc' := 16) rfl (hb hby d38_6) rfl (tlt hi1).1 (by decide) (by decide) ?_
    refine XS.iloadN X0.here hx rfl (hb hby d38_16) rfl ?_
    show Steps _ _ _ (s₁.setTop (mkF m 17 #[iv p0, iv p1, rv u2] [(.int p0)])) _
    exact retI X0 hx Bd.returns (hb hby d38_17) hr
  · show own_QP (some (.int p0)) h0 n0 _ s₁.heap _
    rw [e0]
    exact ⟨rfl, N0, rfl⟩

theorem ef_rmPI1 (m : MethodId) (x0 : Int32) (x1 : Int32) : entryFrame m #[(.int x0), (.int x1), .null] 3 = mkF m 0 #[iv x0, iv x1, .val .null] [] := by first | (simp [entryFrame, mkF, argsToLocals, Value.category]; done) | rfl
set_option maxRecDepth 65536 in
set_option maxHeartbeats 40000000 in
theorem rmPI1 (l : Launch) (Z : State) (a0 : Array Value) (hw : ∀ d ∈ tables_1, d.before a0 Z = true) (ws : List Jvm.Cond) (p0 : Int32) (p1 : Int32) (h0 : Heap) (n0 : Nat) (Z0 : n0 ≤ h0.size) (hi0 : ¬ p0 < 0) (hi1 : p0 < p1) :
    own_MF l own_y13 (Jvm.Cond.code own_y13 jdk_41_method_11_code 3 (some .int)) ws ({ frames := 0, cells := 0, slots := 0, locals := 0 } : Room) #[(.int p0), (.int p1), .null] Z h0 (own_QP (some (.int p0)) h0 n0) := by
  refine MetFree.of_bodySF (plainFor_of_name pn_38) hisR ?_
  intro p e s m args below meth c s₁ Bd hml0 hP hK
  obtain ⟨rfl, hZ, hh⟩ := hP
  have hx := Bd.exec
  have hby := Bd.bytes
  have hml : c.maxLocals = 3 := hml0
  have hown : s.vm.findClass "jdk/internal/util/Preconditions" = some m.cls := findClass_of_methodNamed Bd.named
  have hnm := (name_of_methodNamed Bd.named Bd.method).1
  have X0 : Stand p l e ({ frames := 0, cells := 0, slots := 0, locals := 0 } : Room) s m #[(.int p0), (.int p1), .null] below meth c s₁ [] 0 0 := Stand.of_body Bd
  have e0 : s₁.heap = h0 := by rw [← hh, Bd.state]; rfl
  have N0 := Fr.nil n0
  have pre0 : ∀ t, Steps p.tables e below (s₁.setTop (mkF m 0 #[iv p0, iv p1, .val .null] [])) t → Steps p.tables e below (s₁.setTop (entryFrame m #[(.int p0), (.int p1), .null] 3)) t := fun t k => castTop (ef_rmPI1 m p0 p1) k
  obtain ⟨fs, hr, hrun, hended, hW, hsame⟩ := X0.leave (v := some (.int p0)) (fun h => by rw [Bd.returns] at h; cases h)
  refine ⟨_, _, pre0 _ ?_, hrun, hended, _, _, rfl, ?_, ⟨_, rfl⟩, hW, hsame.mono (by decide) (by decide)⟩
  · refine XS.iloadN X0.here hx rfl (hb hby d38_0) rfl ?_
    refine XS.ifNo X0.here hx rfl (hb hby d38_1) rfl ((if0 _ _).trans (flt hi0).1) ?_
    refine XS.iloadN X0.here hx rfl (hb hby d38_4) rfl ?_
    refine XS.iloadN X0.here hx rfl (hb hby d38_5) rfl ?_
    refine XS.icmpYes X0.here hx rfl (pc0 := 6) (pc' := 16) rfl (hb hby d38_6) rfl (tlt hi1).1 (by decide) (by decide) ?_
    refine XS.iloadN X0.here hx rfl (hb hby d38_16) rfl ?_
    show Steps _ _ _ (s₁.setTop (mkF m 17 #[iv p0, iv p1, .val .null] [(.int p0)])) _
    exact retI X0 hx Bd.returns (hb hby d38_17) hr
  · show own_QP (some (.int p0)) h0 n0 _ s₁.heap _
    rw [e0]
    exact ⟨rfl, N0, rfl⟩

theorem ef_rmPT0 (m : MethodId) (x0 : Int32) (x1 : Int32) (x2 : Int32) (x3 : Addr) : entryFrame m #[(.int x0), (.int x1), (.int x2), (.ref x3)] 4 = mkF m 0 #[iv x0, iv x1, iv x2, rv x3] [] := by first | (simp [entryFrame, mkF, argsToLocals, Value.category]; done) | rfl
set_option maxRecDepth 65536 in
set_option maxHeartbeats 40000000 in
theorem rmPT0 (l : Launch) (Z : State) (a0 : Array Value) (hw : ∀ d ∈ tables_1, d.before a0 Z = true) (ws : List Jvm.Cond) (p0 : Int32) (p1 : Int32) (p2 : Int32) (u3 : Addr) (h0 : Heap) (n0 : Nat) (Z0 : n0 ≤ h0.size) (hi0 : ¬ p0 < 0) (hi1 : ¬ p1 < p0) (hi2 : ¬ p2 < p1) :
    own_MF l own_y14 (Jvm.Cond.code own_y14 jdk_41_method_12_code 4 (some .int)) ws ({ frames := 0, cells := 0, slots := 0, locals := 0 } : Room) #[(.int p0), (.int p1), (.int p2), (.ref u3)] Z h0 (own_QP (some (.int p0)) h0 n0) := by
  refine MetFree.of_bodySF (plainFor_of_name pn_28) hisR ?_
  intro p e s m args below meth c s₁ Bd hml0 hP hK
  obtain ⟨rfl, hZ, hh⟩ := hP
  have hx := Bd.exec
  have hby := Bd.bytes
  have hml : c.maxLocals = 4 := hml0
  have hown : s.vm.findClass "jdk/internal/util/Preconditions" = some m.cls := findClass_of_methodNamed Bd.named
  have hnm := (name_of_methodNamed Bd.named Bd.method).1
  have X0 : Stand p l e ({ frames := 0, cells := 0, slots := 0, locals := 0 } : Room) s m #[(.int p0), (.int p1), (.int p2), (.ref u3)] below meth c s₁ [] 0 0 := Stand.of_body Bd
  have e0 : s₁.heap = h0 := by rw [← hh, Bd.state]; rfl
  have N0 := Fr.nil n0
  have pre0 : ∀ t, Steps p.tables e below (s₁.setTop (mkF m 0 #[iv p0, iv p1, iv p2, rv u3] [])) t → Steps p.tables e below (s₁.setTop (entryFrame m #[(.int p0), (.int p1), (.int p2), (.ref u3)] 4)) t := fun t k => castTop (ef_rmPT0 m p0 p1 p2 u3) k
  obtain ⟨fs, hr, hrun, hended, hW, hsame⟩ := X0.leave (v := some (.int p0)) (fun h => by rw [Bd.returns] at h; cases h)
  refine ⟨_, _, pre0 _ ?_, hrun, hended, _, _, rfl, ?_, ⟨_, rfl⟩, hW, hsame.mono (by decide) (by decide)⟩
  · refine XS.iloadN X0.here hx rfl (hb hby d28_0) rfl ?_
    refine XS.ifNo X0.here hx rfl (hb hby d28_1) rfl ((if0 _ _).trans (flt hi0).1) ?_
    refine XS.iloadN X0.here hx rfl (hb hby d28_4) rfl ?_
    refine XS.iloadN X0.here hx rfl (hb hby d28_5) rfl ?_
    refine XS.icmpNo X0.here hx rfl (hb hby d28_6) rfl (flt hi1).2.2.1 ?_
    refine XS.iloadN X0.here hx rfl (hb hby d28_9) rfl ?_
    refine XS.iloadN X0.here hx rfl (hb hby d28_10) rfl ?_
    refine XS.icmpYes X0.here hx rfl (pc0 := 11) (pc' := 22) rfl (hb hby d28_11) rfl (flt hi2).2.2.2 (by decide) (by decide) ?_
    refine XS.iloadN X0.here hx rfl (hb hby d28_22) rfl ?_
    show Steps _ _ _ (s₁.setTop (mkF m 23 #[iv p0, iv p1, iv p2, rv u3] [(.int p0)])) _
    exact retI X0 hx Bd.returns (hb hby d28_23) hr
  · show own_QP (some (.int p0)) h0 n0 _ s₁.heap _
    rw [e0]
    exact ⟨rfl, N0, rfl⟩

theorem ef_rmPT1 (m : MethodId) (x0 : Int32) (x1 : Int32) (x2 : Int32) : entryFrame m #[(.int x0), (.int x1), (.int x2), .null] 4 = mkF m 0 #[iv x0, iv x1, iv x2, .val .null] [] := by first | (simp [entryFrame, mkF, argsToLocals, Value.category]; done) | rfl
set_option maxRecDepth 65536 in
set_option maxHeartbeats 40000000 in
theorem rmPT1 (l : Launch) (Z : State) (a0 : Array Value) (hw : ∀ d ∈ tables_1, d.before a0 Z = true) (ws : List Jvm.Cond) (p0 : Int32) (p1 : Int32) (p2 : Int32) (h0 : Heap) (n0 : Nat) (Z0 : n0 ≤ h0.size) (hi0 : ¬ p0 < 0) (hi1 : ¬ p1 < p0) (hi2 : ¬ p2 < p1) :
    own_MF l own_y14 (Jvm.Cond.code own_y14 jdk_41_method_12_code 4 (some .int)) ws ({ frames := 0, cells := 0, slots := 0, locals := 0 } : Room) #[(.int p0), (.int p1), (.int p2), .null] Z h0 (own_QP (some (.int p0)) h0 n0) := by
  refine MetFree.of_bodySF (plainFor_of_name pn_28) hisR ?_
  intro p e s m args below meth c s₁ Bd hml0 hP hK
  obtain ⟨rfl, hZ, hh⟩ := hP
  have hx := Bd.exec
  have hby := Bd.bytes
  have hml : c.maxLocals = 4 := hml0
  have hown : s.vm.findClass "jdk/internal/util/Preconditions" = some m.cls := findClass_of_methodNamed Bd.named
  have hnm := (name_of_methodNamed Bd.named Bd.method).1
  have X0 : Stand p l e ({ frames := 0, cells := 0, slots := 0, locals := 0 } : Room) s m #[(.int p0), (.int p1), (.int p2), .null] below meth c s₁ [] 0 0 := Stand.of_body Bd
  have e0 : s₁.heap = h0 := by rw [← hh, Bd.state]; rfl
  have N0 := Fr.nil n0
  have pre0 : ∀ t, Steps p.tables e below (s₁.setTop (mkF m 0 #[iv p0, iv p1, iv p2, .val .null] [])) t → Steps p.tables e below (s₁.setTop (entryFrame m #[(.int p0), (.int p1), (.int p2), .null] 4)) t := fun t k => castTop (ef_rmPT1 m p0 p1 p2) k
  obtain ⟨fs, hr, hrun, hended, hW, hsame⟩ := X0.leave (v := some (.int p0)) (fun h => by rw [Bd.returns] at h; cases h)
  refine ⟨_, _, pre0 _ ?_, hrun, hended, _, _, rfl, ?_, ⟨_, rfl⟩, hW, hsame.mono (by decide) (by decide)⟩
  · refine XS.iloadN X0.here hx rfl (hb hby d28_0) rfl ?_
    refine XS.ifNo X0.here hx rfl (hb hby d28_1) rfl ((if0 _ _).trans (flt hi0).1) ?_
    refine XS.iloadN X0.here hx rfl (hb hby d28_4) rfl ?_
    refine XS.iloadN X0.here hx rfl (hb hby d28_5) rfl ?_
    refine XS.icmpNo X0.here hx rfl (hb hby d28_6) rfl (flt hi1).2.2.1 ?_
    refine XS.iloadN X0.here hx rfl (hb hby d28_9) rfl ?_
    refine XS.iloadN X0.here hx rfl (hb hby d28_10) rfl ?_
    refine XS.icmpYes X0.here hx rfl (pc0 := 11) (pc' := 22) rfl (hb hby d28_11) rfl (flt hi2).2.2.2 (by decide) (by decide) ?_
    refine XS.iloadN X0.here hx rfl (hb hby d28_22) rfl ?_
    show Steps _ _ _ (s₁.setTop (mkF m 23 #[iv p0, iv p1, iv p2, .val .null] [(.int p0)])) _
    exact retI X0 hx Bd.returns (hb hby d28_23) hr
  · show own_QP (some (.int p0)) h0 n0 _ s₁.heap _
    rw [e0]
    exact ⟨rfl, N0, rfl⟩

theorem ef_rmSI (m : MethodId) (x0 : Int32) (x1 : Int32) : entryFrame m #[(.int x0), (.int x1)] 2 = mkF m 0 #[iv x0, iv x1] [] := by first | (simp [entryFrame, mkF, argsToLocals, Value.category]; done) | rfl
set_option maxRecDepth 65536 in
set_option maxHeartbeats 40000000 in
theorem rmSI (l : Launch) (Z : State) (a0 : Array Value) (hw : ∀ d ∈ tables_1, d.before a0 Z = true) (ws : List Jvm.Cond) (p0 : Int32) (p1 : Int32) (fv : Value) (h0 : Heap) (n0 : Nat) (Z0 : n0 ≤ h0.size) (P_S_Preconditions_SIOOBE_FORMATTER : Sta Z h0 "jdk/internal/util/Preconditions" "SIOOBE_FORMATTER" "Ljava/util/function/BiFunction;" fv) (hfv : (fv = .null ∨ ∃ a, fv = .ref a)) (hi0 : ¬ p0 < 0) (hi1 : p0 < p1) :
    own_MF l own_y15 (Jvm.Cond.code own_y15 jdk_42_method_155_code 2 none) ws ({ frames := 1, cells := 0, slots := 0, locals := 14 } : Room) #[(.int p0), (.int p1)] Z h0 (own_QP none h0 n0) := by
  refine MetFree.of_bodySF (plainFor_of_name pn_37) hisR ?_
  intro p e s m args below meth c s₁ Bd hml0 hP hK
  obtain ⟨rfl, hZ, hh⟩ := hP
  have hx := Bd.exec
  have hby := Bd.bytes
  have hml : c.maxLocals = 2 := hml0
  have hown : s.vm.findClass "java/lang/String" = some m.cls := findClass_of_methodNamed Bd.named
  have hnm := (name_of_methodNamed Bd.named Bd.method).1
  have X0 : Stand p l e ({ frames := 1, cells := 0, slots := 0, locals := 14 } : Room) s m #[(.int p0), (.int p1)] below meth c s₁ [] 0 0 := Stand.of_body Bd
  have e0 : s₁.heap = h0 := by rw [← hh, Bd.state]; rfl
  have N0 := Fr.nil n0
  have pre0 : ∀ t, Steps p.tables e below (s₁.setTop (mkF m 0 #[iv p0, iv p1] [])) t → Steps p.tables e below (s₁.setTop (entryFrame m #[(.int p0), (.int p1)] 2)) t := fun t k => castTop (ef_rmSI m p0 p1) k
  have pre1 : ∀ t, Steps p.tables e below (s₁.setTop (mkF m 2 #[iv p0, iv p1] [(.int p1), (.int p0)])) t → Steps p.tables e below (s₁.setTop (entryFrame m #[(.int p0), (.int p1)] 2)) t := fun t kt => pre0 t (by
   refine XS.iloadN X0.here hx rfl (hb hby d37_0) rfl ?_
   refine XS.iloadN X0.here hx rfl (hb hby d37_1) rfl ?_
   exact kt)
  rcases hfv with rfl | ⟨fa_, rfl⟩
  · obtain ⟨T2, X2, e2, st2⟩ := getS2 X0 hx hZ hown (host := "") (Or.inl (own_g hw 162 rfl)) Via.refl e0 P_S_Preconditions_SIOOBE_FORMATTER (g := (mkF m 2 #[iv p0, iv p1] [(.int p1), (.int p0)])) rfl (hb hby d37_2)
    obtain ⟨_, _, ⟨T3, L3, k3, n3⟩, -, X3, ⟨Lc3, hQ3, l3, y3, z3⟩, st3⟩ := Jvm.LawKit.callS X2 hx (y := own_y13) hown (mvT hZ (own_g hw 208 rfl)) (mvT hZ (own_g hw 209 rfl)) (mvT hZ (own_g hw 163 rfl)) (mvT hZ (own_g hw 210 rfl)) (by decide) (backOf (W := 0) (rmPI1 l Z a0 hw [] p0 p1 h0 n0 Z0 hi0 hi1) hZ (own_g hw 210 rfl) (own_g hw 163 rfl) (by decide) (by decide)) (g := (mkF m 5 #[iv p0, iv p1] [.null, (.int p1), (.int p0)])) rfl (by rw [hml]; rfl) (argsL := [(.int p0), (.int p1), .null]) (rest := []) (lenOf pd__IILjava_util_function_BiFunction__I rfl) rfl (by show 2 * 0 + _ ≤ _; exact Nat.le_of_eq rfl) (hb hby d37_5) (fun _ _ => ⟨rfl, e2, (by decide : 0 + 0 ≤ _), (by decide : 0 + 0 ≤ _)⟩)
    dsimp only [Pt.U, Pt.locs, Pt.cells, Pt.slots] at X3 l3 y3 z3 st3 hQ3
    subst l3 y3 z3
    obtain ⟨rfl, N3q, e3⟩ := hQ3
    have N3 := Fr.app N0 N3q
    obtain ⟨fs, hr, hrun, hended, hW, hsame⟩ := X3.leave (v := none) (fun _ => rfl)
    refine ⟨_, _, pre1 _ ?_, hrun, hended, _, _, rfl, ?_, ⟨_, rfl⟩, hW, hsame.mono (by decide) (by decide)⟩
    · refine st2 _ ?_
      show Steps _ _ _ (T2.setTop (mkF m 5 #[iv p0, iv p1] [.null, (.int p1), (.int p0)])) _
      refine st3 _ ?_
      refine XS.pop X3.here hx rfl (hb hby d37_8) rfl rfl ?_
      show Steps _ _ _ (T3.setTop (mkF m 9 #[iv p0, iv p1] [])) _
      exact X3.returnOut hx Bd.returns (hb hby d37_9) hr
    · show own_QP none h0 n0 _ T3.heap _
      rw [e3]
      exact ⟨rfl, N3, rfl⟩
  · obtain ⟨T4, X4, e4, st4⟩ := getS2 X0 hx hZ hown (host := "") (Or.inl (own_g hw 162 rfl)) Via.refl e0 P_S_Preconditions_SIOOBE_FORMATTER (g := (mkF m 2 #[iv p0, iv p1] [(.int p1), (.int p0)])) rfl (hb hby d37_2)
    obtain ⟨_, _, ⟨T5, L5, k5, n5⟩, -, X5, ⟨Lc5, hQ5, l5, y5, z5⟩, st5⟩ := Jvm.LawKit.callS X4 hx (y := own_y13) hown (mvT hZ (own_g hw 208 rfl)) (mvT hZ (own_g hw 209 rfl)) (mvT hZ (own_g hw 163 rfl)) (mvT hZ (own_g hw 210 rfl)) (by decide) (backOf (W := 0) (rmPI0 l Z a0 hw [] p0 p1 fa_ h0 n0 Z0 hi0 hi1) hZ (own_g hw 210 rfl) (own_g hw 163 rfl) (by decide) (by decide)) (g := (mkF m 5 #[iv p0, iv p1] [(.ref fa_), (.int p1), (.int p0)])) rfl (by rw [hml]; rfl) (argsL := [(.int p0), (.int p1), (.ref fa_)]) (rest := []) (lenOf pd__IILjava_util_function_BiFunction__I rfl) rfl (by show 2 * 0 + _ ≤ _; exact Nat.le_of_eq rfl) (hb hby d37_5) (fun _ _ => ⟨rfl, e4, (by decide : 0 + 0 ≤ _), (by decide : 0 + 0 ≤ _)⟩)
    dsimp only [Pt.U, Pt.locs, Pt.cells, Pt.slots] at X5 l5 y5 z5 st5 hQ5
    subst l5 y5 z5
    obtain ⟨rfl, N5q, e5⟩ := hQ5
    have N5 := Fr.app N0 N5q
    obtain ⟨fs, hr, hrun, hended, hW, hsame⟩ := X5.leave (v := none) (fun _ => rfl)
    refine ⟨_, _, pre1 _ ?_, hrun, hended, _, _, rfl, ?_, ⟨_, rfl⟩, hW, hsame.mono (by decide) (by decide)⟩
    · refine st4 _ ?_
      show Steps _ _ _ (T4.setTop (mkF m 5 #[iv p0, iv p1] [(.ref fa_), (.int p1), (.int p0)])) _
      refine st5 _ ?_
      refine XS.pop X5.here hx rfl (hb hby d37_8) rfl rfl ?_
      show Steps _ _ _ (T5.setTop (mkF m 9 #[iv p0, iv p1] [])) _
      exact X5.returnOut hx Bd.returns (hb hby d37_9) hr
    · show own_QP none h0 n0 _ T5.heap _
      rw [e5]
      exact ⟨rfl, N5, rfl⟩

theorem ef_rmSB (m : MethodId) (x0 : Int32) (x1 : Int32) (x2 : Int32) : entryFrame m #[(.int x0), (.int x1), (.int x2)] 3 = mkF m 0 #[iv x0, iv x1, iv x2] [] := by first | (simp [entryFrame, mkF, argsToLocals, Value.category]; done) | rfl
set_option maxRecDepth 65536 in
set_option maxHeartbeats 40000000 in
theorem rmSB (l : Launch) (Z : State) (a0 : Array Value) (hw : ∀ d ∈ tables_1, d.before a0 Z = true) (ws : List Jvm.Cond) (p0 : Int32) (p1 : Int32) (p2 : Int32) (fv : Value) (h0 : Heap) (n0 : Nat) (Z0 : n0 ≤ h0.size) (P_S_Preconditions_SIOOBE_FORMATTER : Sta Z h0 "jdk/internal/util/Preconditions" "SIOOBE_FORMATTER" "Ljava/util/function/BiFunction;" fv) (hfv : (fv = .null ∨ ∃ a, fv = .ref a)) (hi0 : ¬ p0 < 0) (hi1 : ¬ p1 < p0) (hi2 : ¬ p2 < p1) :
    own_MF l own_y16 (Jvm.Cond.code own_y16 jdk_42_method_158_code 3 none) ws ({ frames := 1, cells := 0, slots := 0, locals := 15 } : Room) #[(.int p0), (.int p1), (.int p2)] Z h0 (own_QP none h0 n0) := by
  refine MetFree.of_bodySF (plainFor_of_name pn_27) hisR ?_
  intro p e s m args below meth c s₁ Bd hml0 hP hK
  obtain ⟨rfl, hZ, hh⟩ := hP
  have hx := Bd.exec
  have hby := Bd.bytes
  have hml : c.maxLocals = 3 := hml0
  have hown : s.vm.findClass "java/lang/String" = some m.cls := findClass_of_methodNamed Bd.named
  have hnm := (name_of_methodNamed Bd.named Bd.method).1
  have X0 : Stand p l e ({ frames := 1, cells := 0, slots := 0, locals := 15 } : Room) s m #[(.int p0), (.int p1), (.int p2)] below meth c s₁ [] 0 0 := Stand.of_body Bd
  have e0 : s₁.heap = h0 := by rw [← hh, Bd.state]; rfl
  have N0 := Fr.nil n0
  have pre0 : ∀ t, Steps p.tables e below (s₁.setTop (mkF m 0 #[iv p0, iv p1, iv p2] [])) t → Steps p.tables e below (s₁.setTop (entryFrame m #[(.int p0), (.int p1), (.int p2)] 3)) t := fun t k => castTop (ef_rmSB m p0 p1 p2) k
  have pre1 : ∀ t, Steps p.tables e below (s₁.setTop (mkF m 3 #[iv p0, iv p1, iv p2] [(.int p2), (.int p1), (.int p0)])) t → Steps p.tables e below (s₁.setTop (entryFrame m #[(.int p0), (.int p1), (.int p2)] 3)) t := fun t kt => pre0 t (by
   refine XS.iloadN X0.here hx rfl (hb hby d27_0) rfl ?_
   refine XS.iloadN X0.here hx rfl (hb hby d27_1) rfl ?_
   refine XS.iloadN X0.here hx rfl (hb hby d27_2) rfl ?_
   exact kt)
  rcases hfv with rfl | ⟨fa_, rfl⟩
  · obtain ⟨T2, X2, e2, st2⟩ := getS2 X0 hx hZ hown (host := "") (Or.inl (own_g hw 162 rfl)) Via.refl e0 P_S_Preconditions_SIOOBE_FORMATTER (g := (mkF m 3 #[iv p0, iv p1, iv p2] [(.int p2), (.int p1), (.int p0)])) rfl (hb hby d27_3)
    obtain ⟨_, _, ⟨T3, L3, k3, n3⟩, -, X3, ⟨Lc3, hQ3, l3, y3, z3⟩, st3⟩ := Jvm.LawKit.callS X2 hx (y := own_y14) hown (mvT hZ (own_g hw 164 rfl)) (mvT hZ (own_g hw 165 rfl)) (mvT hZ (own_g hw 163 rfl)) (mvT hZ (own_g hw 166 rfl)) (by decide) (backOf (W := 0) (rmPT1 l Z a0 hw [] p0 p1 p2 h0 n0 Z0 hi0 hi1 hi2) hZ (own_g hw 166 rfl) (own_g hw 163 rfl) (by decide) (by decide)) (g := (mkF m 6 #[iv p0, iv p1, iv p2] [.null, (.int p2), (.int p1), (.int p0)])) rfl (by rw [hml]; rfl) (argsL := [(.int p0), (.int p1), (.int p2), .null]) (rest := []) (lenOf pd__IIILjava_util_function_BiFunction__I rfl) rfl (by show 2 * 0 + _ ≤ _; exact Nat.le_of_eq rfl) (hb hby d27_6) (fun _ _ => ⟨rfl, e2, (by decide : 0 + 0 ≤ _), (by decide : 0 + 0 ≤ _)⟩)
    dsimp only [Pt.U, Pt.locs, Pt.cells, Pt.slots] at X3 l3 y3 z3 st3 hQ3
    subst l3 y3 z3
    obtain ⟨rfl, N3q, e3⟩ := hQ3
    have N3 := Fr.app N0 N3q
    obtain ⟨fs, hr, hrun, hended, hW, hsame⟩ := X3.leave (v := none) (fun _ => rfl)
    refine ⟨_, _, pre1 _ ?_, hrun, hended, _, _, rfl, ?_, ⟨_, rfl⟩, hW, hsame.mono (by decide) (by decide)⟩
    · refine st2 _ ?_
      show Steps _ _ _ (T2.setTop (mkF m 6 #[iv p0, iv p1, iv p2] [.null, (.int p2), (.int p1), (.int p0)])) _
      refine st3 _ ?_
      refine XS.pop X3.here hx rfl (hb hby d27_9) rfl rfl ?_
      show Steps _ _ _ (T3.setTop (mkF m 10 #[iv p0, iv p1, iv p2] [])) _
      exact X3.returnOut hx Bd.returns (hb hby d27_10) hr
    · show own_QP none h0 n0 _ T3.heap _
      rw [e3]
      exact ⟨rfl, N3, rfl⟩
  · obtain ⟨T4, X4, e4, st4⟩ := getS2 X0 hx hZ hown (host := "") (Or.inl (own_g hw 162 rfl)) Via.refl e0 P_S_Preconditions_SIOOBE_FORMATTER (g := (mkF m 3 #[iv p0, iv p1, iv p2] [(.int p2), (.int p1), (.int p0)])) rfl (hb hby d27_3)
    obtain ⟨_, _, ⟨T5, L5, k5, n5⟩, -, X5, ⟨Lc5, hQ5, l5, y5, z5⟩, st5⟩ := Jvm.LawKit.callS X4 hx (y := own_y14) hown (mvT hZ (own_g hw 164 rfl)) (mvT hZ (own_g hw 165 rfl)) (mvT hZ (own_g hw 163 rfl)) (mvT hZ (own_g hw 166 rfl)) (by decide) (backOf (W := 0) (rmPT0 l Z a0 hw [] p0 p1 p2 fa_ h0 n0 Z0 hi0 hi1 hi2) hZ (own_g hw 166 rfl) (own_g hw 163 rfl) (by decide) (by decide)) (g := (mkF m 6 #[iv p0, iv p1, iv p2] [(.ref fa_), (.int p2), (.int p1), (.int p0)])) rfl (by rw [hml]; rfl) (argsL := [(.int p0), (.int p1), (.int p2), (.ref fa_)]) (rest := []) (lenOf pd__IIILjava_util_function_BiFunction__I rfl) rfl (by show 2 * 0 + _ ≤ _; exact Nat.le_of_eq rfl) (hb hby d27_6) (fun _ _ => ⟨rfl, e4, (by decide : 0 + 0 ≤ _), (by decide : 0 + 0 ≤ _)⟩)
    dsimp only [Pt.U, Pt.locs, Pt.cells, Pt.slots] at X5 l5 y5 z5 st5 hQ5
    subst l5 y5 z5
    obtain ⟨rfl, N5q, e5⟩ := hQ5
    have N5 := Fr.app N0 N5q
    obtain ⟨fs, hr, hrun, hended, hW, hsame⟩ := X5.leave (v := none) (fun _ => rfl)
    refine ⟨_, _, pre1 _ ?_, hrun, hended, _, _, rfl, ?_, ⟨_, rfl⟩, hW, hsame.mono (by decide) (by decide)⟩
    · refine st4 _ ?_
      show Steps _ _ _ (T4.setTop (mkF m 6 #[iv p0, iv p1, iv p2] [(.ref fa_), (.int p2), (.int p1), (.int p0)])) _
      refine st5 _ ?_
      refine XS.pop X5.here hx rfl (hb hby d27_9) rfl rfl ?_
      show Steps _ _ _ (T5.setTop (mkF m 10 #[iv p0, iv p1, iv p2] [])) _
      exact X5.returnOut hx Bd.returns (hb hby d27_10) hr
    · show own_QP none h0 n0 _ T5.heap _
      rw [e5]
      exact ⟨rfl, N5, rfl⟩

theorem ef_rmICa (m : MethodId) (x0 : Addr) (x1 : Int32) (x2 : Int32) (x3 : Int32) : entryFrame m #[(.ref x0), (.int x1), (.int x2), (.int x3)] 6 = mkF m 0 #[rv x0, iv x1, iv x2, iv x3, .unset, .unset] [] := by first | (simp [entryFrame, mkF, argsToLocals, Value.category]; done) | rfl
set_option maxRecDepth 65536 in
set_option maxHeartbeats 40000000 in
theorem rmICa (l : Launch) (Z : State) (a0 : Array Value) (hw : ∀ d ∈ tables_1, d.before a0 Z = true) (ws : List Jvm.Cond) (u0 : Addr) (kt : ClassId) (z : Int32) (vs : List Value) (h0 : Heap) (n0 : Nat) (Z0 : n0 ≤ h0.size) (P_G_u0 : Arv Z h0 u0 kt .byte z vs (.int 0)) (hz4 : ¬ (4 : Int32) < z) :
    own_MF l own_y17 (Jvm.Cond.code own_y17 jdk_43_method_23_code 6 (some .int)) ws ({ frames := 0, cells := 0, slots := 0, locals := 0 } : Room) #[(.ref u0), (.int (58 : Int32)), (.int (0 : Int32)), (.int z)] Z h0 (own_QP (some (.int (own_ix z vs))) h0 n0) := by
  refine MetFree.of_bodySF (plainFor_of_name pn_25) hisR ?_
  intro p e s m args below meth c s₁ Bd hml0 hP hK
  obtain ⟨rfl, hZ, hh⟩ := hP
  have hx := Bd.exec
  have hby := Bd.bytes
  have hml : c.maxLocals = 6 := hml0
  have hown : s.vm.findClass "java/lang/StringLatin1" = some m.cls := findClass_of_methodNamed Bd.named
  have hnm := (name_of_methodNamed Bd.named Bd.method).1
  have X0 : Stand p l e ({ frames := 0, cells := 0, slots := 0, locals := 0 } : Room) s m #[(.ref u0), (.int (58 : Int32)), (.int (0 : Int32)), (.int z)] below meth c s₁ [] 0 0 := Stand.of_body Bd
  have e0 : s₁.heap = h0 := by rw [← hh, Bd.state]; rfl
  have N0 := Fr.nil n0
  have pre0 : ∀ t, Steps p.tables e below (s₁.setTop (mkF m 0 #[rv u0, iv (58 : Int32), iv (0 : Int32), iv z, .unset, .unset] [])) t → Steps p.tables e below (s₁.setTop (entryFrame m #[(.ref u0), (.int (58 : Int32)), (.int (0 : Int32)), (.int z)] 6)) t := fun t k => castTop (ef_rmICa m u0 (58 : Int32) (0 : Int32) z) k
  have pre2 : ∀ t, Steps p.tables e below (s₁.setTop (mkF m 10 #[rv u0, iv (58 : Int32), iv (0 : Int32), iv z, iv (58 : Int32), iv (0 : Int32)] [(.int z), (.int (0 : Int32))])) t → Steps p.tables e below (s₁.setTop (entryFrame m #[(.ref u0), (.int (58 : Int32)), (.int (0 : Int32)), (.int z)] 6)) t := fun t kt => pre0 t (by
   refine XS.iloadN X0.here hx rfl (hb hby d25_0) rfl ?_
   refine XS.i2b X0.here hx rfl (hb hby d25_1) rfl ?_
   show Steps _ _ _ (s₁.setTop (mkF m 2 #[rv u0, iv (58 : Int32), iv (0 : Int32), iv z, .unset, .unset] [(.int ((58 : Int32).toInt8.toInt32))])) _
   rw [(by decide : ((58 : Int32).toInt8.toInt32) = (58 : Int32))]
   refine XS.istore X0.here hx rfl (hb hby d25_2) rfl (l' := #[rv u0, iv (58 : Int32), iv (0 : Int32), iv z, iv (58 : Int32), .unset]) rfl ?_
   refine XS.iloadN X0.here hx rfl (hb hby d25_4) rfl ?_
   refine XS.istore X0.here hx rfl (hb hby d25_5) rfl (l' := #[rv u0, iv (58 : Int32), iv (0 : Int32), iv z, iv (58 : Int32), iv (0 : Int32)]) rfl ?_
   refine XS.iload X0.here hx rfl (hb hby d25_7) rfl ?_
   refine XS.iloadN X0.here hx rfl (hb hby d25_9) rfl ?_
   exact kt)
  by_cases hc10_1 : (0 : Int32) < z
  · obtain ⟨cl3, Ar3, qq3, S3, N3_, H3, G3⟩ := id P_G_u0
    have hin3 : ¬ ((0 : Int32) < 0 ∨ cl3.slots.size ≤ ((0 : Int32)).toNatClampNeg) := inb_of S3 ⟨by decide, hc10_1⟩
    have hat3 : cl3.slots[((0 : Int32)).toNatClampNeg]? = some (.int (own_at vs (0 : Int32))) := own_atv H3 G3 hin3
    have pre5 : ∀ t, Steps p.tables e below (s₁.setTop (mkF m 19 #[rv u0, iv (58 : Int32), iv (0 : Int32), iv z, iv (58 : Int32), iv (0 : Int32)] [(.int (58 : Int32)), (.int (own_at vs (0 : Int32)))])) t → Steps p.tables e below (s₁.setTop (entryFrame m #[(.ref u0), (.int (58 : Int32)), (.int (0 : Int32)), (.int z)] 6)) t := fun t kt => pre2 t (by
     refine XS.icmpNo X0.here hx rfl (hb hby d25_10) rfl (tlt hc10_1).2.1 ?_
     refine XS.aloadN X0.here hx rfl (hb hby d25_13) rfl rfl ?_
     refine XS.iload X0.here hx rfl (hb hby d25_14) rfl ?_
     refine X0.baloadBytes hx (j := (0 : Int32)) (v := (.int (own_at vs (0 : Int32)))) (by rw [e0]; exact Ar3.1) (State.isArrayOf_alike hZ.alike Ar3.2.1) Ar3.2.2 hin3 hat3 (g := (mkF m 16 #[rv u0, iv (58 : Int32), iv (0 : Int32), iv z, iv (58 : Int32), iv (0 : Int32)] [(.int (0 : Int32)), (.ref u0)])) rfl rfl (hb hby d25_16) _ ?_
     refine XS.iload X0.here hx rfl (hb hby d25_17) rfl ?_
     exact kt)
    by_cases hc19_4 : (own_at vs (0 : Int32)) = (58 : Int32)
    · obtain ⟨fs, hr, hrun, hended, hW, hsame⟩ := X0.leave (v := some (.int (0 : Int32))) (fun h => by rw [Bd.returns] at h; cases h)
      refine ⟨_, _, pre5 _ ?_, hrun, hended, _, _, rfl, ?_, ⟨_, rfl⟩, hW, hsame.mono (by decide) (by decide)⟩
      · refine XS.icmpNo X0.here hx rfl (hb hby d25_19) rfl (teq hc19_4).2 ?_
        refine XS.iload X0.here hx rfl (hb hby d25_22) rfl ?_
        show Steps _ _ _ (s₁.setTop (mkF m 24 #[rv u0, iv (58 : Int32), iv (0 : Int32), iv z, iv (58 : Int32), iv (0 : Int32)] [(.int (0 : Int32))])) _
        exact retI X0 hx Bd.returns (hb hby d25_24) hr
      · show own_QP (some (.int (own_ix z vs))) h0 n0 _ s₁.heap _
        rw [e0]
        exact ⟨(congrArg (fun q => some (Value.int q)) (by unfold own_ix; rw [if_pos hc10_1, if_pos hc19_4])), N0, rfl⟩
    · have pre7 : ∀ t, Steps p.tables e below (s₁.setTop (mkF m 10 #[rv u0, iv (58 : Int32), iv (0 : Int32), iv z, iv (58 : Int32), iv (1 : Int32)] [(.int z), (.int (1 : Int32))])) t → Steps p.tables e below (s₁.setTop (entryFrame m #[(.ref u0), (.int (58 : Int32)), (.int (0 : Int32)), (.int z)] 6)) t := fun t kt => pre5 t (by
       refine XS.icmpYes X0.here hx rfl (pc0 := 19) (pc' := 25) rfl (hb hby d25_19) rfl (feq hc19_4).2 (by decide) (by decide) ?_
       refine XS.iinc X0.here hx rfl (hb hby d25_25) rfl (l' := #[rv u0, iv (58 : Int32), iv (0 : Int32), iv z, iv (58 : Int32), iv (1 : Int32)]) rfl ?_
       refine XS.goto X0.here hx rfl (pc0 := 28) (pc' := 7) rfl (hb hby d25_28) (by decide) (by decide) ?_
       refine XS.iload X0.here hx rfl (hb hby d25_7) rfl ?_
       refine XS.iloadN X0.here hx rfl (hb hby d25_9) rfl ?_
       exact kt)
      by_cases hc10_6 : (1 : Int32) < z
      · obtain ⟨cl8, Ar8, qq8, S8, N8_, H8, G8⟩ := id P_G_u0
        have hin8 : ¬ ((1 : Int32) < 0 ∨ cl8.slots.size ≤ ((1 : Int32)).toNatClampNeg) := inb_of S8 ⟨by decide, hc10_6⟩
        have hat8 : cl8.slots[((1 : Int32)).toNatClampNeg]? = some (.int (own_at vs (1 : Int32))) := own_atv H8 G8 hin8
        have pre10 : ∀ t, Steps p.tables e below (s₁.setTop (mkF m 19 #[rv u0, iv (58 : Int32), iv (0 : Int32), iv z, iv (58 : Int32), iv (1 : Int32)] [(.int (58 : Int32)), (.int (own_at vs (1 : Int32)))])) t → Steps p.tables e below (s₁.setTop (entryFrame m #[(.ref u0), (.int (58 : Int32)), (.int (0 : Int32)), (.int z)] 6)) t := fun t kt => pre7 t (by
         refine XS.icmpNo X0.here hx rfl (hb hby d25_10) rfl (tlt hc10_6).2.1 ?_
         refine XS.aloadN X0.here hx rfl (hb hby d25_13) rfl rfl ?_
         refine XS.iload X0.here hx rfl (hb hby d25_14) rfl ?_
         refine X0.baloadBytes hx (j := (1 : Int32)) (v := (.int (own_at vs (1 : Int32)))) (by rw [e0]; exact Ar8.1) (State.isArrayOf_alike hZ.alike Ar8.2.1) Ar8.2.2 hin8 hat8 (g := (mkF m 16 #[rv u0, iv (58 : Int32), iv (0 : Int32), iv z, iv (58 : Int32), iv (1 : Int32)] [(.int (1 : Int32)), (.ref u0)])) rfl rfl (hb hby d25_16) _ ?_
         show Steps _ _ _ (s₁.setTop (mkF m 17 #[rv u0, iv (58 : Int32), iv (0 : Int32), iv z, iv (58 : Int32), iv (1 : Int32)] [(.int (own_at vs (1 : Int32)))])) _
         refine XS.iload X0.here hx rfl (hb hby d25_17) rfl ?_
         exact kt)
        by_cases hc19_9 : (own_at vs (1 : Int32)) = (58 : Int32)
        · obtain ⟨fs, hr, hrun, hended, hW, hsame⟩ := X0.leave (v := some (.int (1 : Int32))) (fun h => by rw [Bd.returns] at h; cases h)
          refine ⟨_, _, pre10 _ ?_, hrun, hended, _, _, rfl, ?_, ⟨_, rfl⟩, hW, hsame.mono (by decide) (by decide)⟩
          · refine XS.icmpNo X0.here hx rfl (hb hby d25_19) rfl (teq hc19_9).2 ?_
            refine XS.iload X0.here hx rfl (hb hby d25_22) rfl ?_
            show Steps _ _ _ (s₁.setTop (mkF m 24 #[rv u0, iv (58 : Int32), iv (0 : Int32), iv z, iv (58 : Int32), iv (1 : Int32)] [(.int (1 : Int32))])) _
            exact retI X0 hx Bd.returns (hb hby d25_24) hr
          · show own_QP (some (.int (own_ix z vs))) h0 n0 _ s₁.heap _
            rw [e0]
            exact ⟨(congrArg (fun q => some (Value.int q)) (by unfold own_ix; rw [if_pos hc10_1, if_neg hc19_4, if_pos hc10_6, if_pos hc19_9])), N0, rfl⟩
        · have pre12 : ∀ t, Steps p.tables e below (s₁.setTop (mkF m 10 #[rv u0, iv (58 : Int32), iv (0 : Int32), iv z, iv (58 : Int32), iv (2 : Int32)] [(.int z), (.int (2 : Int32))])) t → Steps p.tables e below (s₁.setTop (entryFrame m #[(.ref u0), (.int (58 : Int32)), (.int (0 : Int32)), (.int z)] 6)) t := fun t kt => pre10 t (by
           refine XS.icmpYes X0.here hx rfl (pc0 := 19) (pc' := 25) rfl (hb hby d25_19) rfl (feq hc19_9).2 (by decide) (by decide) ?_
           refine XS.iinc X0.here hx rfl (hb hby d25_25) rfl (l' := #[rv u0, iv (58 : Int32), iv (0 : Int32), iv z, iv (58 : Int32), iv (2 : Int32)]) rfl ?_
           refine XS.goto X0.here hx rfl (pc0 := 28) (pc' := 7) rfl (hb hby d25_28) (by decide) (by decide) ?_
           refine XS.iload X0.here hx rfl (hb hby d25_7) rfl ?_
           refine XS.iloadN X0.here hx rfl (hb hby d25_9) rfl ?_
           exact kt)
          by_cases hc10_11 : (2 : Int32) < z
          · obtain ⟨cl13, Ar13, qq13, S13, N13_, H13, G13⟩ := id P_G_u0
            have hin13 : ¬ ((2 : Int32) < 0 ∨ cl13.slots.size ≤ ((2 : Int32)).toNatClampNeg) := inb_of S13 ⟨by decide, hc10_11⟩
            have hat13 : cl13.slots[((2 : Int32)).toNatClampNeg]? = some (.int (own_at vs (2 : Int32))) := own_atv H13 G13 hin13
            have pre15 : ∀ t, Steps p.tables e below (s₁.setTop (mkF m 19 #[rv u0, iv (58 : Int32), iv (0 : Int32), iv z, iv (58 : Int32), iv (2 : Int32)] [(.int (58 : Int32)), (.int (own_at vs (2 : Int32)))])) t → Steps p.tables e below (s₁.setTop (entryFrame m #[(.ref u0), (.int (58 : Int32)), (.int (0 : Int32)), (.int z)] 6)) t := fun t kt => pre12 t (by
             refine XS.icmpNo X0.here hx rfl (hb hby d25_10) rfl (tlt hc10_11).2.1 ?_
             refine XS.aloadN X0.here hx rfl (hb hby d25_13) rfl rfl ?_
             refine XS.iload X0.here hx rfl (hb hby d25_14) rfl ?_
             refine X0.baloadBytes hx (j := (2 : Int32)) (v := (.int (own_at vs (2 : Int32)))) (by rw [e0]; exact Ar13.1) (State.isArrayOf_alike hZ.alike Ar13.2.1) Ar13.2.2 hin13 hat13 (g := (mkF m 16 #[rv u0, iv (58 : Int32), iv (0 : Int32), iv z, iv (58 : Int32), iv (2 : Int32)] [(.int (2 : Int32)), (.ref u0)])) rfl rfl (hb hby d25_16) _ ?_
             refine XS.iload X0.here hx rfl (hb hby d25_17) rfl ?_
             exact kt)
            by_cases hc19_14 : (own_at vs (2 : Int32)) = (58 : Int32)
            · obtain ⟨fs, hr, hrun, hended, hW, hsame⟩ := X0.leave (v := some (.int (2 : Int32))) (fun h => by rw [Bd.returns] at h; cases h)
              refine ⟨_, _, pre15 _ ?_, hrun, hended, _, _, rfl, ?_, ⟨_, rfl⟩, hW, hsame.mono (by decide) (by decide)⟩
              · refine XS.icmpNo X0.here hx rfl (hb hby d25_19) rfl (teq hc19_14).2 ?_
                refine XS.iload X0.here hx rfl (hb hby d25_22) rfl ?_
                show Steps _ _ _ (s₁.setTop (mkF m 24 #[rv u0, iv (58 : Int32), iv (0 : Int32), iv z, iv (58 : Int32), iv (2 : Int32)] [(.int (2 : Int32))])) _
                exact retI X0 hx Bd.returns (hb hby d25_24) hr
              · show own_QP (some (.int (own_ix z vs))) h0 n0 _ s₁.heap _
                rw [e0]
                exact ⟨(congrArg (fun q => some (Value.int q)) (by unfold own_ix; rw [if_pos hc10_1, if_neg hc19_4, if_pos hc10_6, if_neg hc19_9, if_pos hc10_11, if_pos hc19_14])), N0, rfl⟩
            · have pre17 : ∀ t, Steps p.tables e below (s₁.setTop (mkF m 10 #[rv u0, iv (58 : Int32), iv (0 : Int32), iv z, iv (58 : Int32), iv (3 : Int32)] [(.int z), (.int (3 : Int32))])) t → Steps p.tables e below (s₁.setTop (entryFrame m #[(.ref u0), (.int (58 : Int32)), (.int (0 : Int32)), (.int z)] 6)) t := fun t kt => pre15 t (by
               refine XS.icmpYes X0.here hx rfl (pc0 := 19) (pc' := 25) rfl (hb hby d25_19) rfl (feq hc19_14).2 (by decide) (by decide) ?_
               refine XS.iinc X0.here hx rfl (hb hby d25_25) rfl (l' := #[rv u0, iv (58 : Int32), iv (0 : Int32), iv z, iv (58 : Int32), iv (3 : Int32)]) rfl ?_
               refine XS.goto X0.here hx rfl (pc0 := 28) (pc' := 7) rfl (hb hby d25_28) (by decide) (by decide) ?_
               refine XS.iload X0.here hx rfl (hb hby d25_7) rfl ?_
               refine XS.iloadN X0.here hx rfl (hb hby d25_9) rfl ?_
               exact kt)
              by_cases hc10_16 : (3 : Int32) < z
              · obtain ⟨cl18, Ar18, qq18, S18, N18_, H18, G18⟩ := id P_G_u0
                have hin18 : ¬ ((3 : Int32) < 0 ∨ cl18.slots.size ≤ ((3 : Int32)).toNatClampNeg) := inb_of S18 ⟨by decide, hc10_16⟩
                have hat18 : cl18.slots[((3 : Int32)).toNatClampNeg]? = some (.int (own_at vs (3 : Int32))) := own_atv H18 G18 hin18
                have pre20 : ∀ t, Steps p.tables e below (s₁.setTop (mkF m 19 #[rv u0, iv (58 : Int32), iv (0 : Int32), iv z, iv (58 : Int32), iv (3 : Int32)] [(.int (58 : Int32)), (.int (own_at vs (3 : Int32)))])) t → Steps p.tables e below (s₁.setTop (entryFrame m #[(.ref u0), (.int (58 : Int32)), (.int (0 : Int32)), (.int z)] 6)) t := fun t kt => pre17 t (by
                 refine XS.icmpNo X0.here hx rfl (hb hby d25_10) rfl (tlt hc10_16).2.1 ?_
                 refine XS.aloadN X0.here hx rfl (hb hby d25_13) rfl rfl ?_
                 refine XS.iload X0.here hx rfl (hb hby d25_14) rfl ?_
                 refine X0.baloadBytes hx (j := (3 : Int32)) (v := (.int (own_at vs (3 : Int32)))) (by rw [e0]; exact Ar18.1) (State.isArrayOf_alike hZ.alike Ar18.2.1) Ar18.2.2 hin18 hat18 (g := (mkF m 16 #[rv u0, iv (58 : Int32), iv (0 : Int32), iv z, iv (58 : Int32), iv (3 : Int32)] [(.int (3 : Int32)), (.ref u0)])) rfl rfl (hb hby d25_16) _ ?_
                 show Steps _ _ _ (s₁.setTop (mkF m 17 #[rv u0, iv (58 : Int32), iv (0 : Int32), iv z, iv (58 : Int32), iv (3 : Int32)] [(.int (own_at vs (3 : Int32)))])) _
                 refine XS.iload X0.here hx rfl (hb hby d25_17) rfl ?_
                 exact kt)
                by_cases hc19_19 : (own_at vs (3 : Int32)) = (58 : Int32)
                · obtain ⟨fs, hr, hrun, hended, hW, hsame⟩ := X0.leave (v := some (.int (3 : Int32))) (fun h => by rw [Bd.returns] at h; cases h)
                  refine ⟨_, _, pre20 _ ?_, hrun, hended, _, _, rfl, ?_, ⟨_, rfl⟩, hW, hsame.mono (by decide) (by decide)⟩
                  · refine XS.icmpNo X0.here hx rfl (hb hby d25_19) rfl (teq hc19_19).2 ?_
                    refine XS.iload X0.here hx rfl (hb hby d25_22) rfl ?_
                    show Steps _ _ _ (s₁.setTop (mkF m 24 #[rv u0, iv (58 : Int32), iv (0 : Int32), iv z, iv (58 : Int32), iv (3 : Int32)] [(.int (3 : Int32))])) _
                    exact retI X0 hx Bd.returns (hb hby d25_24) hr
                  · show own_QP (some (.int (own_ix z vs))) h0 n0 _ s₁.heap _
                    rw [e0]
                    exact ⟨(congrArg (fun q => some (Value.int q)) (by unfold own_ix; rw [if_pos hc10_1, if_neg hc19_4, if_pos hc10_6, if_neg hc19_9, if_pos hc10_11, if_neg hc19_14, if_pos hc10_16, if_pos hc19_19])), N0, rfl⟩
                · obtain ⟨fs, hr, hrun, hended, hW, hsame⟩ := X0.leave (v := some (.int (-1 : Int32))) (fun h => by rw [Bd.returns] at h; cases h)
                  refine ⟨_, _, pre20 _ ?_, hrun, hended, _, _, rfl, ?_, ⟨_, rfl⟩, hW, hsame.mono (by decide) (by decide)⟩
                  · refine XS.icmpYes X0.here hx rfl (pc0 := 19) (pc' := 25) rfl (hb hby d25_19) rfl (feq hc19_19).2 (by decide) (by decide) ?_
                    refine XS.iinc X0.here hx rfl (hb hby d25_25) rfl (l' := #[rv u0, iv (58 : Int32), iv (0 : Int32), iv z, iv (58 : Int32), iv (4 : Int32)]) rfl ?_
                    refine XS.goto X0.here hx rfl (pc0 := 28) (pc' := 7) rfl (hb hby d25_28) (by decide) (by decide) ?_
                    refine XS.iload X0.here hx rfl (hb hby d25_7) rfl ?_
                    refine XS.iloadN X0.here hx rfl (hb hby d25_9) rfl ?_
                    refine XS.icmpYes X0.here hx rfl (pc0 := 10) (pc' := 31) rfl (hb hby d25_10) rfl (flt hz4).2.1 (by decide) (by decide) ?_
                    refine XS.iconst X0.here hx rfl (hb hby d25_31) ?_
                    show Steps _ _ _ (s₁.setTop (mkF m 32 #[rv u0, iv (58 : Int32), iv (0 : Int32), iv z, iv (58 : Int32), iv (4 : Int32)] [(.int (-1 : Int32))])) _
                    exact retI X0 hx Bd.returns (hb hby d25_32) hr
                  · show own_QP (some (.int (own_ix z vs))) h0 n0 _ s₁.heap _
                    rw [e0]
                    exact ⟨(congrArg (fun q => some (Value.int q)) (by unfold own_ix; rw [if_pos hc10_1, if_neg hc19_4, if_pos hc10_6, if_neg hc19_9, if_pos hc10_11, if_neg hc19_14, if_pos hc10_16, if_neg hc19_19])), N0, rfl⟩
              · obtain ⟨fs, hr, hrun, hended, hW, hsame⟩ := X0.leave (v := some (.int (-1 : Int32))) (fun h => by rw [Bd.returns] at h; cases h)
                refine ⟨_, _, pre17 _ ?_, hrun, hended, _, _, rfl, ?_, ⟨_, rfl⟩, hW, hsame.mono (by decide) (by decide)⟩
                · refine XS.icmpYes X0.here hx rfl (pc0 := 10) (pc' := 31) rfl (hb hby d25_10) rfl (flt hc10_16).2.1 (by decide) (by decide) ?_
                  refine XS.iconst X0.here hx rfl (hb hby d25_31) ?_
                  show Steps _ _ _ (s₁.setTop (mkF m 32 #[rv u0, iv (58 : Int32), iv (0 : Int32), iv z, iv (58 : Int32), iv (3 : Int32)] [(.int (-1 : Int32))])) _
                  exact retI X0 hx Bd.returns (hb hby d25_32) hr
                · show own_QP (some (.int (own_ix z vs))) h0 n0 _ s₁.heap _
                  rw [e0]
                  exact ⟨(congrArg (fun q => some (Value.int q)) (by unfold own_ix; rw [if_pos hc10_1, if_neg hc19_4, if_pos hc10_6, if_neg hc19_9, if_pos hc10_11, if_neg hc19_14, if_neg hc10_16])), N0, rfl⟩
          · obtain ⟨fs, hr, hrun, hended, hW, hsame⟩ := X0.leave (v := some (.int (-1 : Int32))) (fun h => by rw [Bd.returns] at h; cases h)
            refine ⟨_, _, pre12 _ ?_, hrun, hended, _, _, rfl, ?_, ⟨_, rfl⟩, hW, hsame.mono (by decide) (by decide)⟩
            · refine XS.icmpYes X0.here hx rfl (pc0 := 10) (pc' := 31) rfl (hb hby d25_10) rfl (flt hc10_11).2.1 (by decide) (by decide) ?_
              refine XS.iconst X0.here hx rfl (hb hby d25_31) ?_
              show Steps _ _ _ (s₁.setTop (mkF m 32 #[rv u0, iv (58 : Int32), iv (0 : Int32), iv z, iv (58 : Int32), iv (2 : Int32)] [(.int (-1 : Int32))])) _
              exact retI X0 hx Bd.returns (hb hby d25_32) hr
            · show own_QP (some (.int (own_ix z vs))) h0 n0 _ s₁.heap _
              rw [e0]
              exact ⟨(congrArg (fun q => some (Value.int q)) (by unfold own_ix; rw [if_pos hc10_1, if_neg hc19_4, if_pos hc10_6, if_neg hc19_9, if_neg hc10_11])), N0, rfl⟩
      · obtain ⟨fs, hr, hrun, hended, hW, hsame⟩ := X0.leave (v := some (.int (-1 : Int32))) (fun h => by rw [Bd.returns] at h; cases h)
        refine ⟨_, _, pre7 _ ?_, hrun, hended, _, _, rfl, ?_, ⟨_, rfl⟩, hW, hsame.mono (by decide) (by decide)⟩
        · refine XS.icmpYes X0.here hx rfl (pc0 := 10) (pc' := 31) rfl (hb hby d25_10) rfl (flt hc10_6).2.1 (by decide) (by decide) ?_
          refine XS.iconst X0.here hx rfl (hb hby d25_31) ?_
          show Steps _ _ _ (s₁.setTop (mkF m 32 #[rv u0, iv (58 : Int32), iv (0 : Int32), iv z, iv (58 : Int32), iv (1 : Int32)] [(.int (-1 : Int32))])) _
          exact retI X0 hx Bd.returns (hb hby d25_32) hr
        · show own_QP (some (.int (own_ix z vs))) h0 n0 _ s₁.heap _
          rw [e0]
          exact ⟨(congrArg (fun q => some (Value.int q)) (by unfold own_ix; rw [if_pos hc10_1, if_neg hc19_4, if_neg hc10_6])), N0, rfl⟩
  · obtain ⟨fs, hr, hrun, hended, hW, hsame⟩ := X0.leave (v := some (.int (-1 : Int32))) (fun h => by rw [Bd.returns] at h; cases h)
    refine ⟨_, _, pre2 _ ?_, hrun, hended, _, _, rfl, ?_, ⟨_, rfl⟩, hW, hsame.mono (by decide) (by decide)⟩
    · refine XS.icmpYes X0.here hx rfl (pc0 := 10) (pc' := 31) rfl (hb hby d25_10) rfl (flt hc10_1).2.1 (by decide) (by decide) ?_
      refine XS.iconst X0.here hx rfl (hb hby d25_31) ?_
      show Steps _ _ _ (s₁.setTop (mkF m 32 #[rv u0, iv (58 : Int32), iv (0 : Int32), iv z, iv (58 : Int32), iv (0 : Int32)] [(.int (-1 : Int32))])) _
      exact retI X0 hx Bd.returns (hb hby d25_32) hr
    · show own_QP (some (.int (own_ix z vs))) h0 n0 _ s₁.heap _
      rw [e0]
      exact ⟨(congrArg (fun q => some (Value.int q)) (by unfold own_ix; rw [if_neg hc10_1])), N0, rfl⟩

theorem ef_rmILa (m : MethodId) (x0 : Addr) (x1 : Int32) (x2 : Int32) (x3 : Int32) : entryFrame m #[(.ref x0), (.int x1), (.int x2), (.int x3)] 4 = mkF m 0 #[rv x0, iv x1, iv x2, iv x3] [] := by first | (simp [entryFrame, mkF, argsToLocals, Value.category]; done) | rfl
set_option maxRecDepth 65536 in
set_option maxHeartbeats 40000000 in
theorem rmILa (l : Launch) (Z : State) (a0 : Array Value) (hw : ∀ d ∈ tables_1, d.before a0 Z = true) (ws : List Jvm.Cond) (u0 : Addr) (kt : ClassId) (z : Int32) (vs : List Value) (h0 : Heap) (n0 : Nat) (Z0 : n0 ≤ h0.size) (P_G_u0 : Arv Z h0 u0 kt .byte z vs (.int 0)) (hz4 : ¬ (4 : Int32) < z) :
    own_MF l own_y18 (Jvm.Cond.code own_y18 jdk_43_method_22_code 4 (some .int)) ws ({ frames := 1, cells := 0, slots := 0, locals := 17 } : Room) #[(.ref u0), (.int (58 : Int32)), (.int (0 : Int32)), (.int z)] Z h0 (own_QP (some (.int (own_ix z vs))) h0 n0) := by
  refine MetFree.of_bodySF (plainFor_of_name pn_15) hisR ?_
  intro p e s m args below meth c s₁ Bd hml0 hP hK
  obtain ⟨rfl, hZ, hh⟩ := hP
  have hx := Bd.exec
  have hby := Bd.bytes
  have hml : c.maxLocals = 4 := hml0
  have hown : s.vm.findClass "java/lang/StringLatin1" = some m.cls := findClass_of_methodNamed Bd.named
  have hnm := (name_of_methodNamed Bd.named Bd.method).1
  have X0 : Stand p l e ({ frames := 1, cells := 0, slots := 0, locals := 17 } : Room) s m #[(.ref u0), (.int (58 : Int32)), (.int (0 : Int32)), (.int z)] below meth c s₁ [] 0 0 := Stand.of_body Bd
  have e0 : s₁.heap = h0 := by rw [← hh, Bd.state]; rfl
  have N0 := Fr.nil n0
  have pre0 : ∀ t, Steps p.tables e below (s₁.setTop (mkF m 0 #[rv u0, iv (58 : Int32), iv (0 : Int32), iv z] [])) t → Steps p.tables e below (s₁.setTop (entryFrame m #[(.ref u0), (.int (58 : Int32)), (.int (0 : Int32)), (.int z)] 4)) t := fun t k => castTop (ef_rmILa m u0 (58 : Int32) (0 : Int32) z) k
  obtain ⟨_, _, ⟨T1, L1, k1, n1⟩, -, X1, ⟨Lc1, hQ1, l1, y1, z1⟩, st1⟩ := Jvm.LawKit.callS X0 hx (y := own_y11) hown (mvT hZ (own_g hw 103 rfl)) (mvT hZ (own_g hw 104 rfl)) (mvT hZ (own_g hw 101 rfl)) (mvT hZ (own_g hw 105 rfl)) (by decide) (backOf (W := 0) (rmCE l Z a0 hw []  h0 n0 Z0 ) hZ (own_g hw 105 rfl) (own_g hw 101 rfl) (by decide) (by decide)) (g := (mkF m 1 #[rv u0, iv (58 : Int32), iv (0 : Int32), iv z] [(.int (58 : Int32))])) rfl (by rw [hml]; rfl) (argsL := [(.int (58 : Int32))]) (rest := []) (lenOf pd__I_Z rfl) rfl (by show 2 * 0 + _ ≤ _; exact Nat.le_of_eq rfl) (hb hby d15_1) (fun _ _ => ⟨rfl, e0, (by decide : 0 + 0 ≤ _), (by decide : 0 + 0 ≤ _)⟩)
  dsimp only [Pt.U, Pt.locs, Pt.cells, Pt.slots] at X1 l1 y1 z1 st1 hQ1
  subst l1 y1 z1
  obtain ⟨rfl, N1q, e1⟩ := hQ1
  have N1 := Fr.app N0 N1q
  obtain ⟨_, _, ⟨T2, L2, k2, n2⟩, -, X2, ⟨Lc2, hQ2, l2, y2, z2⟩, st2⟩ := Jvm.LawKit.callS X1 hx (y := own_y9) hown (mvT hZ (own_g hw 106 rfl)) (mvT hZ (own_g hw 107 rfl)) (mvT hZ (own_g hw 108 rfl)) (mvT hZ (own_g hw 109 rfl)) (by decide) (backOf (W := 0) (rmMx l Z a0 hw [] (0 : Int32) (0 : Int32) h0 n0 Z0 (by decide)) hZ (own_g hw 109 rfl) (own_g hw 108 rfl) (by decide) (by decide)) (g := (mkF m 11 #[rv u0, iv (58 : Int32), iv (0 : Int32), iv z] [(.int (0 : Int32)), (.int (0 : Int32))])) rfl (by rw [hml]; rfl) (argsL := [(.int (0 : Int32)), (.int (0 : Int32))]) (rest := []) (lenOf pd__II_I rfl) rfl (by show 2 * 0 + _ ≤ _; exact Nat.le_of_eq rfl) (hb hby d15_11) (fun _ _ => ⟨rfl, e1, (by decide : 0 + 0 ≤ _), (by decide : 0 + 0 ≤ _)⟩)
  dsimp only [Pt.U, Pt.locs, Pt.cells, Pt.slots] at X2 l2 y2 z2 st2 hQ2
  subst l2 y2 z2
  obtain ⟨rfl, N2q, e2⟩ := hQ2
  have N2 := Fr.app N1 N2q
  obtain ⟨cl3, Ar3, qq3, S3, N3_, H3, G3⟩ := id P_G_u0
  obtain ⟨_, _, ⟨T4, L4, k4, n4⟩, -, X4, ⟨Lc4, hQ4, l4, y4, z4⟩, st4⟩ := Jvm.LawKit.callS X2 hx (y := own_y10) hown (mvT hZ (own_g hw 110 rfl)) (mvT hZ (own_g hw 111 rfl)) (mvT hZ (own_g hw 108 rfl)) (mvT hZ (own_g hw 112 rfl)) (by decide) (backOf (W := 0) (rmMi l Z a0 hw [] z z h0 n0 Z0 ) hZ (own_g hw 112 rfl) (own_g hw 108 rfl) (by decide) (by decide)) (g := (mkF m 18 #[rv u0, iv (58 : Int32), iv (0 : Int32), iv z] [(.int z), (.int z)])) rfl (by rw [hml]; rfl) (argsL := [(.int z), (.int z)]) (rest := []) (lenOf pd__II_I rfl) rfl (by show 2 * 0 + _ ≤ _; exact Nat.le_of_eq rfl) (hb hby d15_18) (fun _ _ => ⟨rfl, e2, (by decide : 0 + 0 ≤ _), (by decide : 0 + 0 ≤ _)⟩)
  dsimp only [Pt.U, Pt.locs, Pt.cells, Pt.slots] at X4 l4 y4 z4 st4 hQ4
  subst l4 y4 z4
  obtain ⟨rfl, N4q, e4⟩ := hQ4
  have N4 := Fr.app N2 N4q
  have pre5 : ∀ t, Steps p.tables e below (T4.setTop (mkF m 21 #[rv u0, iv (58 : Int32), iv (0 : Int32), iv z] [(.int (own_min z z))])) t → Steps p.tables e below (s₁.setTop (entryFrame m #[(.ref u0), (.int (58 : Int32)), (.int (0 : Int32)), (.int z)] 4)) t := fun t kt => pre0 t (by
   refine XS.iloadN X0.here hx rfl (hb hby d15_0) rfl ?_
   show Steps _ _ _ (s₁.setTop (mkF m 1 #[rv u0, iv (58 : Int32), iv (0 : Int32), iv z] [(.int (58 : Int32))])) _
   refine st1 _ ?_
   refine XS.ifYes X1.here hx rfl (pc0 := 4) (pc' := 9) rfl (hb hby d15_4) rfl ((if0 _ _).trans (feq (by decide : ¬ ((1 : Int32) = (0 : Int32)))).2) (by decide) (by decide) ?_
   refine XS.iloadN X1.here hx rfl (hb hby d15_9) rfl ?_
   refine XS.iconst X1.here hx rfl (hb hby d15_10) ?_
   show Steps _ _ _ (T1.setTop (mkF m 11 #[rv u0, iv (58 : Int32), iv (0 : Int32), iv z] [(.int (0 : Int32)), (.int (0 : Int32))])) _
   refine st2 _ ?_
   refine XS.istoreN X2.here hx rfl (hb hby d15_14) rfl (l' := #[rv u0, iv (58 : Int32), iv (0 : Int32), iv z]) rfl ?_
   refine XS.iloadN X2.here hx rfl (hb hby d15_15) rfl ?_
   refine XS.aloadN X2.here hx rfl (hb hby d15_16) rfl rfl ?_
   refine X2.arraylength hx (by rw [e2]; exact Ar3.1) (State.isArrayOf_alike hZ.alike Ar3.2.1) (g := (mkF m 17 #[rv u0, iv (58 : Int32), iv (0 : Int32), iv z] [(.ref u0), (.int z)])) rfl rfl (hb hby d15_17) _ ?_
   rw [len_of S3 N3_]
   show Steps _ _ _ (T2.setTop (mkF m 18 #[rv u0, iv (58 : Int32), iv (0 : Int32), iv z] [(.int z), (.int z)])) _
   refine st4 _ ?_
   exact kt)
  rw [own_minz z] at pre5
  have pre7 : ∀ t, Steps p.tables e below (T4.setTop (mkF m 24 #[rv u0, iv (58 : Int32), iv (0 : Int32), iv z] [(.int z), (.int (0 : Int32))])) t → Steps p.tables e below (s₁.setTop (entryFrame m #[(.ref u0), (.int (58 : Int32)), (.int (0 : Int32)), (.int z)] 4)) t := fun t kt => pre5 t (by
   refine XS.istoreN X4.here hx rfl (hb hby d15_21) rfl (l' := #[rv u0, iv (58 : Int32), iv (0 : Int32), iv z]) rfl ?_
   refine XS.iloadN X4.here hx rfl (hb hby d15_22) rfl ?_
   refine XS.iloadN X4.here hx rfl (hb hby d15_23) rfl ?_
   exact kt)
  by_cases hc24_6 : (0 : Int32) < z
  · obtain ⟨_, _, ⟨T8, L8, k8, n8⟩, -, X8, ⟨Lc8, hQ8, l8, y8, z8⟩, st8⟩ := Jvm.LawKit.callS X4 hx (y := own_y17) hown (mvT hZ (own_g hw 150 rfl)) (mvT hZ (own_g hw 151 rfl)) (mvT hZ (own_g hw 101 rfl)) (mvT hZ (own_g hw 152 rfl)) (by decide) (backOf (W := 0) (rmICa l Z a0 hw [] u0 kt z vs h0 n0 Z0 P_G_u0 hz4) hZ (own_g hw 152 rfl) (own_g hw 101 rfl) (by decide) (by decide)) (g := (mkF m 33 #[rv u0, iv (58 : Int32), iv (0 : Int32), iv z] [(.int z), (.int (0 : Int32)), (.int (58 : Int32)), (.ref u0)])) rfl (by rw [hml]; rfl) (argsL := [(.ref u0), (.int (58 : Int32)), (.int (0 : Int32)), (.int z)]) (rest := []) (lenOf pd___BIII_I rfl) rfl (by show 2 * 0 + _ ≤ _; exact Nat.le_of_eq rfl) (hb hby d15_33) (fun _ _ => ⟨rfl, e4, (by decide : 0 + 0 ≤ _), (by decide : 0 + 0 ≤ _)⟩)
    dsimp only [Pt.U, Pt.locs, Pt.cells, Pt.slots] at X8 l8 y8 z8 st8 hQ8
    subst l8 y8 z8
    obtain ⟨rfl, N8q, e8⟩ := hQ8
    have N8 := Fr.app N4 N8q
    obtain ⟨fs, hr, hrun, hended, hW, hsame⟩ := X8.leave (v := some (.int (own_ix z vs))) (fun h => by rw [Bd.returns] at h; cases h)
    refine ⟨_, _, pre7 _ ?_, hrun, hended, _, _, rfl, ?_, ⟨_, rfl⟩, hW, hsame.mono (by decide) (by decide)⟩
    · refine XS.icmpYes X4.here hx rfl (pc0 := 24) (pc' := 29) rfl (hb hby d15_24) rfl (tlt hc24_6).1 (by decide) (by decide) ?_
      refine XS.aloadN X4.here hx rfl (hb hby d15_29) rfl rfl ?_
      refine XS.iloadN X4.here hx rfl (hb hby d15_30) rfl ?_
      refine XS.iloadN X4.here hx rfl (hb hby d15_31) rfl ?_
      refine XS.iloadN X4.here hx rfl (hb hby d15_32) rfl ?_
      show Steps _ _ _ (T4.setTop (mkF m 33 #[rv u0, iv (58 : Int32), iv (0 : Int32), iv z] [(.int z), (.int (0 : Int32)), (.int (58 : Int32)), (.ref u0)])) _
      refine st8 _ ?_
      show Steps _ _ _ (T8.setTop (mkF m 36 #[rv u0, iv (58 : Int32), iv (0 : Int32), iv z] [(.int (own_ix z vs))])) _
      exact retI X8 hx Bd.returns (hb hby d15_36) hr
    · show own_QP (some (.int (own_ix z vs))) h0 n0 _ T8.heap _
      rw [e8]
      exact ⟨rfl, N8, rfl⟩
  · obtain ⟨fs, hr, hrun, hended, hW, hsame⟩ := X4.leave (v := some (.int (-1 : Int32))) (fun h => by rw [Bd.returns] at h; cases h)
    refine ⟨_, _, pre7 _ ?_, hrun, hended, _, _, rfl, ?_, ⟨_, rfl⟩, hW, hsame.mono (by decide) (by decide)⟩
    · refine XS.icmpNo X4.here hx rfl (hb hby d15_24) rfl (flt hc24_6).1 ?_
      refine XS.iconst X4.here hx rfl (hb hby d15_27) ?_
      show Steps _ _ _ (T4.setTop (mkF m 28 #[rv u0, iv (58 : Int32), iv (0 : Int32), iv z] [(.int (-1 : Int32))])) _
      exact retI X4 hx Bd.returns (hb hby d15_28) hr
    · show own_QP (some (.int (own_ix z vs))) h0 n0 _ T4.heap _
      rw [e4]
      exact ⟨(congrArg (fun q => some (Value.int q)) (by unfold own_ix; rw [if_neg hc24_6])), N4, rfl⟩

theorem ef_rmI2a (m : MethodId) (x0 : Addr) (x1 : Int32) (x2 : Int32) : entryFrame m #[(.ref x0), (.int x1), (.int x2)] 3 = mkF m 0 #[rv x0, iv x1, iv x2] [] := by first | (simp [entryFrame, mkF, argsToLocals, Value.category]; done) | rfl
set_option maxRecDepth 65536 in
set_option maxHeartbeats 40000000 in
theorem rmI2a (l : Launch) (Z : State) (a0 : Array Value) (hw : ∀ d ∈ tables_1, d.before a0 Z = true) (ws : List Jvm.Cond) (u0 : Addr) (tv : Addr) (kt : ClassId) (z : Int32) (vs : List Value) (zC : Int32) (h0 : Heap) (n0 : Nat) (Z0 : n0 ≤ h0.size) (P_E_u0 : Exa Z h0 u0 "java/lang/String") (P_F_u0_String_value : Fld Z h0 u0 "java/lang/String" "value" "[B" (.ref tv)) (P_F_u0_String_coder : Fld Z h0 u0 "java/lang/String" "coder" "B" (.int (0 : Int32))) (P_G_tv : Arv Z h0 tv kt .byte z vs (.int 0)) (hz4 : ¬ (4 : Int32) < z) (P_S_String_COMPACT_STRINGS : Sta Z h0 "java/lang/String" "COMPACT_STRINGS" "Z" (.int zC)) (hz : ¬ (zC = (0 : Int32))) :
    own_MF l own_y19 (Jvm.Cond.code own_y19 jdk_42_method_80_code 3 (some .int)) ws ({ frames := 2, cells := 0, slots := 0, locals := 32 } : Room) #[(.ref u0), (.int (58 : Int32)), (.int (0 : Int32))] Z h0 (own_QP (some (.int (own_ix z vs))) h0 n0) := by
  refine MetFree.of_bodySF (plainFor_of_name pn_12) hisR ?_
  intro p e s m args below meth c s₁ Bd hml0 hP hK
  obtain ⟨rfl, hZ, hh⟩ := hP
  have hx := Bd.exec
  have hby := Bd.bytes
  have hml : c.maxLocals = 3 := hml0
  have hown : s.vm.findClass "java/lang/String" = some m.cls := findClass_of_methodNamed Bd.named
  have hnm := (name_of_methodNamed Bd.named Bd.method).1
  have X0 : Stand p l e ({ frames := 2, cells := 0, slots := 0, locals := 32 } : Room) s m #[(.ref u0), (.int (58 : Int32)), (.int (0 : Int32))] below meth c s₁ [] 0 0 := Stand.of_body Bd
  have e0 : s₁.heap = h0 := by rw [← hh, Bd.state]; rfl
  have N0 := Fr.nil n0
  have pre0 : ∀ t, Steps p.tables e below (s₁.setTop (mkF m 0 #[rv u0, iv (58 : Int32), iv (0 : Int32)] [])) t → Steps p.tables e below (s₁.setTop (entryFrame m #[(.ref u0), (.int (58 : Int32)), (.int (0 : Int32))] 3)) t := fun t k => castTop (ef_rmI2a m u0 (58 : Int32) (0 : Int32)) k
  obtain ⟨cq2, kq2, q2a, q2b, q2c⟩ := isOf hZ e0 P_E_u0
  obtain ⟨_, _, ⟨T1, L1, k1, n1⟩, -, X1, ⟨Lc1, hQ1, l1, y1, z1⟩, st1⟩ := X0.virtualBack hx (y := own_y7) (z := own_y7) hown (mvT hZ (own_g hw 89 rfl)) (mvT hZ (own_g hw 90 rfl)) (notFace_of_selects (args := #[]) (mvT hZ (own_g hw 92 rfl))) (mvT hZ (own_g hw 92 rfl)) (mvT hZ (own_g hw 91 rfl)) (by decide) (backOf (W := 0) (rmLa l Z a0 hw [] u0 zC h0 n0 Z0 P_F_u0_String_coder P_S_String_COMPACT_STRINGS hz) hZ (own_g hw 93 rfl) (own_g hw 8 rfl) (by decide) (by decide)) q2a q2c (g := (mkF m 1 #[rv u0, iv (58 : Int32), iv (0 : Int32)] [(.ref u0)])) rfl (by rw [hml]; rfl) (Steps.refl _) (argsL := []) (rest := []) (lenOf pd___Z rfl) rfl (by show 2 * 0 + _ ≤ _; exact Nat.le_of_eq rfl) (hb hby d12_1) (fun _ _ => ⟨rfl, e0, (by decide : 0 + 0 ≤ _), (by decide : 0 + 0 ≤ _)⟩)
  dsimp only [Pt.U, Pt.locs, Pt.cells, Pt.slots] at X1 l1 y1 z1 st1 hQ1
  subst l1 y1 z1
  obtain ⟨rfl, N1q, e1⟩ := hQ1
  have N1 := Fr.app N0 N1q
  obtain ⟨T3, X3, e3, st3⟩ := getF X1 hx hZ hown (host := "") (Or.inl (own_g hw 26 rfl)) Via.refl e1 P_F_u0_String_value (g := (mkF m 8 #[rv u0, iv (58 : Int32), iv (0 : Int32)] [(.ref u0)])) rfl rfl (hb hby d12_8)
  obtain ⟨cq5, kq5, q5a, q5b, q5c⟩ := isOf hZ e3 P_E_u0
  obtain ⟨_, _, ⟨T4, L4, k4, n4⟩, -, X4, ⟨Lc4, hQ4, l4, y4, z4⟩, st4⟩ := X3.virtualBack hx (y := own_y8) (z := own_y8) hown (mvT hZ (own_g hw 94 rfl)) (mvT hZ (own_g hw 95 rfl)) (notFace_of_selects (args := #[]) (mvT hZ (own_g hw 97 rfl))) (mvT hZ (own_g hw 97 rfl)) (mvT hZ (own_g hw 96 rfl)) (by decide) (backOf (W := 3) (rmLe l Z a0 hw [] u0 tv kt z vs zC h0 n0 Z0 P_E_u0 P_F_u0_String_value P_F_u0_String_coder P_G_tv P_S_String_COMPACT_STRINGS hz) hZ (own_g hw 98 rfl) (own_g hw 8 rfl) (by decide) (by decide)) q5a q5c (g := (mkF m 14 #[rv u0, iv (58 : Int32), iv (0 : Int32)] [(.ref u0), (.int (0 : Int32)), (.int (58 : Int32)), (.ref tv)])) rfl (by rw [hml]; rfl) (Steps.refl _) (argsL := []) (rest := [(.int (0 : Int32)), (.int (58 : Int32)), (.ref tv)]) (lenOf pd___I rfl) rfl (by show 2 * 0 + _ ≤ _; exact Nat.le_of_eq rfl) (hb hby d12_14) (fun _ _ => ⟨rfl, e3, (by decide : 0 + 0 ≤ _), (by decide : 0 + 0 ≤ _)⟩)
  dsimp only [Pt.U, Pt.locs, Pt.cells, Pt.slots] at X4 l4 y4 z4 st4 hQ4
  subst l4 y4 z4
  obtain ⟨rfl, N4q, e4⟩ := hQ4
  have N4 := Fr.app N1 N4q
  obtain ⟨_, _, ⟨T6, L6, k6, n6⟩, -, X6, ⟨Lc6, hQ6, l6, y6, z6⟩, st6⟩ := Jvm.LawKit.callS X4 hx (y := own_y18) hown (mvT hZ (own_g hw 99 rfl)) (mvT hZ (own_g hw 100 rfl)) (mvT hZ (own_g hw 101 rfl)) (mvT hZ (own_g hw 102 rfl)) (by decide) (backOf (W := 0) (rmILa l Z a0 hw [] tv kt z vs h0 n0 Z0 P_G_tv hz4) hZ (own_g hw 102 rfl) (own_g hw 101 rfl) (by decide) (by decide)) (g := (mkF m 17 #[rv u0, iv (58 : Int32), iv (0 : Int32)] [(.int z), (.int (0 : Int32)), (.int (58 : Int32)), (.ref tv)])) rfl (by rw [hml]; rfl) (argsL := [(.ref tv), (.int (58 : Int32)), (.int (0 : Int32)), (.int z)]) (rest := []) (lenOf pd___BIII_I rfl) rfl (by show 2 * 0 + _ ≤ _; exact Nat.le_of_eq rfl) (hb hby d12_17) (fun _ _ => ⟨rfl, e4, (by decide : 0 + 0 ≤ _), (by decide : 0 + 0 ≤ _)⟩)
  dsimp only [Pt.U, Pt.locs, Pt.cells, Pt.slots] at X6 l6 y6 z6 st6 hQ6
  subst l6 y6 z6
  obtain ⟨rfl, N6q, e6⟩ := hQ6
  have N6 := Fr.app N4 N6q
  obtain ⟨fs, hr, hrun, hended, hW, hsame⟩ := X6.leave (v := some (.int (own_ix z vs))) (fun h => by rw [Bd.returns] at h; cases h)
  refine ⟨_, _, pre0 _ ?_, hrun, hended, _, _, rfl, ?_, ⟨_, rfl⟩, hW, hsame.mono (by decide) (by decide)⟩
  · refine XS.aloadN X0.here hx rfl (hb hby d12_0) rfl rfl ?_
    show Steps _ _ _ (s₁.setTop (mkF m 1 #[rv u0, iv (58 : Int32), iv (0 : Int32)] [(.ref u0)])) _
    refine st1.trans ?_
    refine XS.ifNo X1.here hx rfl (hb hby d12_4) rfl ((if0 _ _).trans (feq (by decide : ¬ ((1 : Int32) = (0 : Int32)))).1) ?_
    refine XS.aloadN X1.here hx rfl (hb hby d12_7) rfl rfl ?_
    refine st3 _ ?_
    refine XS.iloadN X3.here hx rfl (hb hby d12_11) rfl ?_
    refine XS.iloadN X3.here hx rfl (hb hby d12_12) rfl ?_
    refine XS.aloadN X3.here hx rfl (hb hby d12_13) rfl rfl ?_
    show Steps _ _ _ (T3.setTop (mkF m 14 #[rv u0, iv (58 : Int32), iv (0 : Int32)] [(.ref u0), (.int (0 : Int32)), (.int (58 : Int32)), (.ref tv)])) _
    refine st4.trans ?_
    show Steps _ _ _ (T4.setTop (mkF m 17 #[rv u0, iv (58 : Int32), iv (0 : Int32)] [(.int z), (.int (0 : Int32)), (.int (58 : Int32)), (.ref tv)])) _
    refine st6 _ ?_
    refine XS.goto X6.here hx rfl (pc0 := 20) (pc' := 36) rfl (hb hby d12_20) (by decide) (by decide) ?_
    show Steps _ _ _ (T6.setTop (mkF m 36 #[rv u0, iv (58 : Int32), iv (0 : Int32)] [(.int (own_ix z vs))])) _
    exact retI X6 hx Bd.returns (hb hby d12_36) hr
  · show own_QP (some (.int (own_ix z vs))) h0 n0 _ T6.heap _
    rw [e6]
    exact ⟨rfl, N6, rfl⟩

theorem ef_rmI1a (m : MethodId) (x0 : Addr) (x1 : Int32) : entryFrame m #[(.ref x0), (.int x1)] 2 = mkF m 0 #[rv x0, iv x1] [] := by first | (simp [entryFrame, mkF, argsToLocals, Value.category]; done) | rfl
set_option maxRecDepth 65536 in
set_option maxHeartbeats 40000000 in
theorem rmI1a (l : Launch) (Z : State) (a0 : Array Value) (hw : ∀ d ∈ tables_1, d.before a0 Z = true) (ws : List Jvm.Cond) (u0 : Addr) (tv : Addr) (kt : ClassId) (z : Int32) (vs : List Value) (zC : Int32) (h0 : Heap) (n0 : Nat) (Z0 : n0 ≤ h0.size) (P_E_u0 : Exa Z h0 u0 "java/lang/String") (P_F_u0_String_value : Fld Z h0 u0 "java/lang/String" "value" "[B" (.ref tv)) (P_F_u0_String_coder : Fld Z h0 u0 "java/lang/String" "coder" "B" (.int (0 : Int32))) (P_G_tv : Arv Z h0 tv kt .byte z vs (.int 0)) (hz4 : ¬ (4 : Int32) < z) (P_S_String_COMPACT_STRINGS : Sta Z h0 "java/lang/String" "COMPACT_STRINGS" "Z" (.int zC)) (hz : ¬ (zC = (0 : Int32))) :
    own_MF l own_y20 (Jvm.Cond.code own_y20 jdk_42_method_79_code 2 (some .int)) ws ({ frames := 3, cells := 0, slots := 0, locals := 46 } : Room) #[(.ref u0), (.int (58 : Int32))] Z h0 (own_QP (some (.int (own_ix z vs))) h0 n0) := by
  refine MetFree.of_bodySF (plainFor_of_name pn_11) hisR ?_
  intro p e s m args below meth c s₁ Bd hml0 hP hK
  obtain ⟨rfl, hZ, hh⟩ := hP
  have hx := Bd.exec
  have hby := Bd.bytes
  have hml : c.maxLocals = 2 := hml0
  have hown : s.vm.findClass "java/lang/String" = some m.cls := findClass_of_methodNamed Bd.named
  have hnm := (name_of_methodNamed Bd.named Bd.method).1
  have X0 : Stand p l e ({ frames := 3, cells := 0, slots := 0, locals := 46 } : Room) s m #[(.ref u0), (.int (58 : Int32))] below meth c s₁ [] 0 0 := Stand.of_body Bd
  have e0 : s₁.heap = h0 := by rw [← hh, Bd.state]; rfl
  have N0 := Fr.nil n0
  have pre0 : ∀ t, Steps p.tables e below (s₁.setTop (mkF m 0 #[rv u0, iv (58 : Int32)] [])) t → Steps p.tables e below (s₁.setTop (entryFrame m #[(.ref u0), (.int (58 : Int32))] 2)) t := fun t k => castTop (ef_rmI1a m u0 (58 : Int32)) k
  obtain ⟨cq2, kq2, q2a, q2b, q2c⟩ := isOf hZ e0 P_E_u0
  obtain ⟨_, _, ⟨T1, L1, k1, n1⟩, -, X1, ⟨Lc1, hQ1, l1, y1, z1⟩, st1⟩ := X0.virtualBack hx (y := own_y19) (z := own_y19) hown (mvT hZ (own_g hw 84 rfl)) (mvT hZ (own_g hw 85 rfl)) (notFace_of_selects (args := #[]) (mvT hZ (own_g hw 87 rfl))) (mvT hZ (own_g hw 87 rfl)) (mvT hZ (own_g hw 86 rfl)) (by decide) (backOf (W := 0) (rmI2a l Z a0 hw [] u0 tv kt z vs zC h0 n0 Z0 P_E_u0 P_F_u0_String_value P_F_u0_String_coder P_G_tv hz4 P_S_String_COMPACT_STRINGS hz) hZ (own_g hw 88 rfl) (own_g hw 8 rfl) (by decide) (by decide)) q2a q2c (g := (mkF m 3 #[rv u0, iv (58 : Int32)] [(.int (0 : Int32)), (.int (58 : Int32)), (.ref u0)])) rfl (by rw [hml]; rfl) (Steps.refl _) (argsL := [(.int (58 : Int32)), (.int (0 : Int32))]) (rest := []) (lenOf pd__II_I rfl) rfl (by show 2 * 0 + _ ≤ _; exact Nat.le_of_eq rfl) (hb hby d11_3) (fun _ _ => ⟨rfl, e0, (by decide : 0 + 0 ≤ _), (by decide : 0 + 0 ≤ _)⟩)
  dsimp only [Pt.U, Pt.locs, Pt.cells, Pt.slots] at X1 l1 y1 z1 st1 hQ1
  subst l1 y1 z1
  obtain ⟨rfl, N1q, e1⟩ := hQ1
  have N1 := Fr.app N0 N1q
  obtain ⟨fs, hr, hrun, hended, hW, hsame⟩ := X1.leave (v := some (.int (own_ix z vs))) (fun h => by rw [Bd.returns] at h; cases h)
  refine ⟨_, _, pre0 _ ?_, hrun, hended, _, _, rfl, ?_, ⟨_, rfl⟩, hW, hsame.mono (by decide) (by decide)⟩
  · refine XS.aloadN X0.here hx rfl (hb hby d11_0) rfl rfl ?_
    refine XS.iloadN X0.here hx rfl (hb hby d11_1) rfl ?_
    refine XS.iconst X0.here hx rfl (hb hby d11_2) ?_
    show Steps _ _ _ (s₁.setTop (mkF m 3 #[rv u0, iv (58 : Int32)] [(.int (0 : Int32)), (.int (58 : Int32)), (.ref u0)])) _
    refine st1.trans ?_
    show Steps _ _ _ (T1.setTop (mkF m 6 #[rv u0, iv (58 : Int32)] [(.int (own_ix z vs))])) _
    exact retI X1 hx Bd.returns (hb hby d11_6) hr
  · show own_QP (some (.int (own_ix z vs))) h0 n0 _ T1.heap _
    rw [e1]
    exact ⟨rfl, N1, rfl⟩

theorem ef_rmICb (m : MethodId) (x0 : Addr) (x1 : Int32) (x2 : Int32) (x3 : Int32) : entryFrame m #[(.ref x0), (.int x1), (.int x2), (.int x3)] 6 = mkF m 0 #[rv x0, iv x1, iv x2, iv x3, .unset, .unset] [] := by first | (simp [entryFrame, mkF, argsToLocals, Value.category]; done) | rfl
set_option maxRecDepth 65536 in
set_option maxHeartbeats 40000000 in
theorem rmICb (l : Launch) (Z : State) (a0 : Array Value) (hw : ∀ d ∈ tables_1, d.before a0 Z = true) (ws : List Jvm.Cond) (u0 : Addr) (p2 : Int32) (kt : ClassId) (z : Int32) (vs : List Value) (h0 : Heap) (n0 : Nat) (Z0 : n0 ≤ h0.size) (P_G_u0 : Arv Z h0 u0 kt .byte z vs (.int 0)) (hz4 : ¬ (4 : Int32) < z) (hf0 : (0 : Int32) < p2) (hf1 : p2 < z) :
    own_MF l own_y17 (Jvm.Cond.code own_y17 jdk_43_method_23_code 6 (some .int)) ws ({ frames := 0, cells := 0, slots := 0, locals := 0 } : Room) #[(.ref u0), (.int (58 : Int32)), (.int p2), (.int z)] Z h0 (own_QP (some (.int (own_iy p2 z vs))) h0 n0) := by
  refine MetFree.of_bodySF (plainFor_of_name pn_25) hisR ?_
  intro p e s m args below meth c s₁ Bd hml0 hP hK
  obtain ⟨rfl, hZ, hh⟩ := hP
  have hx := Bd.exec
  have hby := Bd.bytes
  have hml : c.maxLocals = 6 := hml0
  have hown : s.vm.findClass "java/lang/StringLatin1" = some m.cls := findClass_of_methodNamed Bd.named
  have hnm := (name_of_methodNamed Bd.named Bd.method).1
  have X0 : Stand p l e ({ frames := 0, cells := 0, slots := 0, locals := 0 } : Room) s m #[(.ref u0), (.int (58 : Int32)), (.int p2), (.int z)] below meth c s₁ [] 0 0 := Stand.of_body Bd
  have e0 : s₁.heap = h0 := by rw [← hh, Bd.state]; rfl
  have N0 := Fr.nil n0
  have pre0 : ∀ t, Steps p.tables e below (s₁.setTop (mkF m 0 #[rv u0, iv (58 : Int32), iv p2, iv z, .unset, .unset] [])) t → Steps p.tables e below (s₁.setTop (entryFrame m #[(.ref u0), (.int (58 : Int32)), (.int p2), (.int z)] 6)) t := fun t k => castTop (ef_rmICb m u0 (58 : Int32) p2 z) k
  obtain ⟨cl1, Ar1, qq1, S1, N1_, H1, G1⟩ := id P_G_u0
  have hin1 : ¬ (p2 < 0 ∨ cl1.slots.size ≤ (p2).toNatClampNeg) := inb_of S1 (own_ik0 hf0 hf1 hz4)
  have hat1 : cl1.slots[(p2).toNatClampNeg]? = some (.int (own_at vs p2)) := own_atv H1 G1 hin1
  have pre3 : ∀ t, Steps p.tables e below (s₁.setTop (mkF m 19 #[rv u0, iv (58 : Int32), iv p2, iv z, iv (58 : Int32), iv p2] [(.int (58 : Int32)), (.int (own_at vs p2))])) t → Steps p.tables e below (s₁.setTop (entryFrame m #[(.ref u0), (.int (58 : Int32)), (.int p2), (.int z)] 6)) t := fun t kt => pre0 t (by
   refine XS.iloadN X0.here hx rfl (hb hby d25_0) rfl ?_
   refine XS.i2b X0.here hx rfl (hb hby d25_1) rfl ?_
   show Steps _ _ _ (s₁.setTop (mkF m 2 #[rv u0, iv (58 : Int32), iv p2, iv z, .unset, .unset] [(.int ((58 : Int32).toInt8.toInt32))])) _
   rw [(by decide : ((58 : Int32).toInt8.toInt32) = (58 : Int32))]
   refine XS.istore X0.here hx rfl (hb hby d25_2) rfl (l' := #[rv u0, iv (58 : Int32), iv p2, iv z, iv (58 : Int32), .unset]) rfl ?_
   refine XS.iloadN X0.here hx rfl (hb hby d25_4) rfl ?_
   refine XS.istore X0.here hx rfl (hb hby d25_5) rfl (l' := #[rv u0, iv (58 : Int32), iv p2, iv z, iv (58 : Int32), iv p2]) rfl ?_
   refine XS.iload X0.here hx rfl (hb hby d25_7) rfl ?_
   refine XS.iloadN X0.here hx rfl (hb hby d25_9) rfl ?_
   refine XS.icmpNo X0.here hx rfl (hb hby d25_10) rfl (tlt hf1).2.1 ?_
   refine XS.aloadN X0.here hx rfl (hb hby d25_13) rfl rfl ?_
   refine XS.iload X0.here hx rfl (hb hby d25_14) rfl ?_
   refine X0.baloadBytes hx (j := p2) (v := (.int (own_at vs p2))) (by rw [e0]; exact Ar1.1) (State.isArrayOf_alike hZ.alike Ar1.2.1) Ar1.2.2 hin1 hat1 (g := (mkF m 16 #[rv u0, iv (58 : Int32), iv p2, iv z, iv (58 : Int32), iv p2] [(.int p2), (.ref u0)])) rfl rfl (hb hby d25_16) _ ?_
   refine XS.iload X0.here hx rfl (hb hby d25_17) rfl ?_
   exact kt)
  by_cases hc19_2 : (own_at vs p2) = (58 : Int32)
  · obtain ⟨fs, hr, hrun, hended, hW, hsame⟩ := X0.leave (v := some (.int p2)) (fun h => by rw [Bd.returns] at h; cases h)
    refine ⟨_, _, pre3 _ ?_, hrun, hended, _, _, rfl, ?_, ⟨_, rfl⟩, hW, hsame.mono (by decide) (by decide)⟩
    · refine XS.icmpNo X0.here hx rfl (hb hby d25_19) rfl (teq hc19_2).2 ?_
      refine XS.iload X0.here hx rfl (hb hby d25_22) rfl ?_
      show Steps _ _ _ (s₁.setTop (mkF m 24 #[rv u0, iv (58 : Int32), iv p2, iv z, iv (58 : Int32), iv p2] [(.int p2)])) _
      exact retI X0 hx Bd.returns (hb hby d25_24) hr
    · show own_QP (some (.int (own_iy p2 z vs))) h0 n0 _ s₁.heap _
      rw [e0]
      exact ⟨(congrArg (fun q => some (Value.int q)) (by unfold own_iy; rw [if_pos hc19_2])), N0, rfl⟩
  · have pre5 : ∀ t, Steps p.tables e below (s₁.setTop (mkF m 10 #[rv u0, iv (58 : Int32), iv p2, iv z, iv (58 : Int32), iv (p2 + (1 : Int32))] [(.int z), (.int (p2 + (1 : Int32)))])) t → Steps p.tables e below (s₁.setTop (entryFrame m #[(.ref u0), (.int (58 : Int32)), (.int p2), (.int z)] 6)) t := fun t kt => pre3 t (by
     refine XS.icmpYes X0.here hx rfl (pc0 := 19) (pc' := 25) rfl (hb hby d25_19) rfl (feq hc19_2).2 (by decide) (by decide) ?_
     refine XS.iinc X0.here hx rfl (hb hby d25_25) rfl (l' := #[rv u0, iv (58 : Int32), iv p2, iv z, iv (58 : Int32), iv (p2 + (1 : Int32))]) rfl ?_
     refine XS.goto X0.here hx rfl (pc0 := 28) (pc' := 7) rfl (hb hby d25_28) (by decide) (by decide) ?_
     refine XS.iload X0.here hx rfl (hb hby d25_7) rfl ?_
     refine XS.iloadN X0.here hx rfl (hb hby d25_9) rfl ?_
     exact kt)
    by_cases hc10_4 : (p2 + (1 : Int32)) < z
    · obtain ⟨cl6, Ar6, qq6, S6, N6_, H6, G6⟩ := id P_G_u0
      have hin6 : ¬ ((p2 + (1 : Int32)) < 0 ∨ cl6.slots.size ≤ ((p2 + (1 : Int32))).toNatClampNeg) := inb_of S6 (own_ik1 hf0 hf1 hz4 hc10_4)
      have hat6 : cl6.slots[((p2 + (1 : Int32))).toNatClampNeg]? = some (.int (own_at vs (p2 + (1 : Int32)))) := own_atv H6 G6 hin6
      have pre8 : ∀ t, Steps p.tables e below (s₁.setTop (mkF m 19 #[rv u0, iv (58 : Int32), iv p2, iv z, iv (58 : Int32), iv (p2 + (1 : Int32))] [(.int (58 : Int32)), (.int (own_at vs (p2 + (1 : Int32))))])) t → Steps p.tables e below (s₁.setTop (entryFrame m #[(.ref u0), (.int (58 : Int32)), (.int p2), (.int z)] 6)) t := fun t kt => pre5 t (by
       refine XS.icmpNo X0.here hx rfl (hb hby d25_10) rfl (tlt hc10_4).2.1 ?_
       refine XS.aloadN X0.here hx rfl (hb hby d25_13) rfl rfl ?_
       refine XS.iload X0.here hx rfl (hb hby d25_14) rfl ?_
       refine X0.baloadBytes hx (j := (p2 + (1 : Int32))) (v := (.int (own_at vs (p2 + (1 : Int32))))) (by rw [e0]; exact Ar6.1) (State.isArrayOf_alike hZ.alike Ar6.2.1) Ar6.2.2 hin6 hat6 (g := (mkF m 16 #[rv u0, iv (58 : Int32), iv p2, iv z, iv (58 : Int32), iv (p2 + (1 : Int32))] [(.int (p2 + (1 : Int32))), (.ref u0)])) rfl rfl (hb hby d25_16) _ ?_
       show Steps _ _ _ (s₁.setTop (mkF m 17 #[rv u0, iv (58 : Int32), iv p2, iv z, iv (58 : Int32), iv (p2 + (1 : Int32))] [(.int (own_at vs (p2 + (1 : Int32))))])) _
       refine XS.iload X0.here hx rfl (hb hby d25_17) rfl ?_
       exact kt)
      by_cases hc19_7 : (own_at vs (p2 + (1 : Int32))) = (58 : Int32)
      · obtain ⟨fs, hr, hrun, hended, hW, hsame⟩ := X0.leave (v := some (.int (p2 + (1 : Int32)))) (fun h => by rw [Bd.returns] at h; cases h)
        refine ⟨_, _, pre8 _ ?_, hrun, hended, _, _, rfl, ?_, ⟨_, rfl⟩, hW, hsame.mono (by decide) (by decide)⟩
        · refine XS.icmpNo X0.here hx rfl (hb hby d25_19) rfl (teq hc19_7).2 ?_
          refine XS.iload X0.here hx rfl (hb hby d25_22) rfl ?_
          show Steps _ _ _ (s₁.setTop (mkF m 24 #[rv u0, iv (58 : Int32), iv p2, iv z, iv (58 : Int32), iv (p2 + (1 : Int32))] [(.int (p2 + (1 : Int32)))])) _
          exact retI X0 hx Bd.returns (hb hby d25_24) hr
        · show own_QP (some (.int (own_iy p2 z vs))) h0 n0 _ s₁.heap _
          rw [e0]
          exact ⟨(congrArg (fun q => some (Value.int q)) (by unfold own_iy; rw [if_neg hc19_2, if_pos hc10_4, if_pos hc19_7])), N0, rfl⟩
      · have pre10 : ∀ t, Steps p.tables e below (s₁.setTop (mkF m 10 #[rv u0, iv (58 : Int32), iv p2, iv z, iv (58 : Int32), iv ((p2 + (1 : Int32)) + (1 : Int32))] [(.int z), (.int ((p2 + (1 : Int32)) + (1 : Int32)))])) t → Steps p.tables e below (s₁.setTop (entryFrame m #[(.ref u0), (.int (58 : Int32)), (.int p2), (.int z)] 6)) t := fun t kt => pre8 t (by
         refine XS.icmpYes X0.here hx rfl (pc0 := 19) (pc' := 25) rfl (hb hby d25_19) rfl (feq hc19_7).2 (by decide) (by decide) ?_
         refine XS.iinc X0.here hx rfl (hb hby d25_25) rfl (l' := #[rv u0, iv (58 : Int32), iv p2, iv z, iv (58 : Int32), iv ((p2 + (1 : Int32)) + (1 : Int32))]) rfl ?_
         refine XS.goto X0.here hx rfl (pc0 := 28) (pc' := 7) rfl (hb hby d25_28) (by decide) (by decide) ?_
         refine XS.iload X0.here hx rfl (hb hby d25_7) rfl ?_
         refine XS.iloadN X0.here hx rfl (hb hby d25_9) rfl ?_
         exact kt)
        by_cases hc10_9 : ((p2 + (1 : Int32)) + (1 : Int32)) < z
        · obtain ⟨cl11, Ar11, qq11, S11, N11_, H11, G11⟩ := id P_G_u0
          have hin11 : ¬ (((p2 + (1 : Int32)) + (1 : Int32)) < 0 ∨ cl11.slots.size ≤ (((p2 + (1 : Int32)) + (1 : Int32))).toNatClampNeg) := inb_of S11 (own_ik2 hf0 hf1 hz4 hc10_9)
          have hat11 : cl11.slots[(((p2 + (1 : Int32)) + (1 : Int32))).toNatClampNeg]? = some (.int (own_at vs ((p2 + (1 : Int32)) + (1 : Int32)))) := own_atv H11 G11 hin11
          have pre13 : ∀ t, Steps p.tables e below (s₁.setTop (mkF m 19 #[rv u0, iv (58 : Int32), iv p2, iv z, iv (58 : Int32), iv ((p2 + (1 : Int32)) + (1 : Int32))] [(.int (58 : Int32)), (.int (own_at vs ((p2 + (1 : Int32)) + (1 : Int32))))])) t → Steps p.tables e below (s₁.setTop (entryFrame m #[(.ref u0), (.int (58 : Int32)), (.int p2), (.int z)] 6)) t := fun t kt => pre10 t (by
           refine XS.icmpNo X0.here hx rfl (hb hby d25_10) rfl (tlt hc10_9).2.1 ?_
           refine XS.aloadN X0.here hx rfl (hb hby d25_13) rfl rfl ?_
           refine XS.iload X0.here hx rfl (hb hby d25_14) rfl ?_
           refine X0.baloadBytes hx (j := ((p2 + (1 : Int32)) + (1 : Int32))) (v := (.int (own_at vs ((p2 + (1 : Int32)) + (1 : Int32))))) (by rw [e0]; exact Ar11.1) (State.isArrayOf_alike hZ.alike Ar11.2.1) Ar11.2.2 hin11 hat11 (g := (mkF m 16 #[rv u0, iv (58 : Int32), iv p2, iv z, iv (58 : Int32), iv ((p2 + (1 : Int32)) + (1 : Int32))] [(.int ((p2 + (1 : Int32)) + (1 : Int32))), (.ref u0)])) rfl rfl (hb hby d25_16) _ ?_
           refine XS.iload X0.here hx rfl (hb hby d25_17) rfl ?_
           exact kt)
          by_cases hc19_12 : (own_at vs ((p2 + (1 : Int32)) + (1 : Int32))) = (58 : Int32)
          · obtain ⟨fs, hr, hrun, hended, hW, hsame⟩ := X0.leave (v := some (.int ((p2 + (1 : Int32)) + (1 : Int32)))) (fun h => by rw [Bd.returns] at h; cases h)
            refine ⟨_, _, pre13 _ ?_, hrun, hended, _, _, rfl, ?_, ⟨_, rfl⟩, hW, hsame.mono (by decide) (by decide)⟩
            · refine XS.icmpNo X0.here hx rfl (hb hby d25_19) rfl (teq hc19_12).2 ?_
              refine XS.iload X0.here hx rfl (hb hby d25_22) rfl ?_
              show Steps _ _ _ (s₁.setTop (mkF m 24 #[rv u0, iv (58 : Int32), iv p2, iv z, iv (58 : Int32), iv ((p2 + (1 : Int32)) + (1 : Int32))] [(.int ((p2 + (1 : Int32)) + (1 : Int32)))])) _
              exact retI X0 hx Bd.returns (hb hby d25_24) hr
            · show own_QP (some (.int (own_iy p2 z vs))) h0 n0 _ s₁.heap _
              rw [e0]
              exact ⟨(congrArg (fun q => some (Value.int q)) (by unfold own_iy; rw [if_neg hc19_2, if_pos hc10_4, if_neg hc19_7, if_pos hc10_9, if_pos hc19_12])), N0, rfl⟩
          · obtain ⟨fs, hr, hrun, hended, hW, hsame⟩ := X0.leave (v := some (.int (-1 : Int32))) (fun h => by rw [Bd.returns] at h; cases h)
            refine ⟨_, _, pre13 _ ?_, hrun, hended, _, _, rfl, ?_, ⟨_, rfl⟩, hW, hsame.mono (by decide) (by decide)⟩
            · refine XS.icmpYes X0.here hx rfl (pc0 := 19) (pc' := 25) rfl (hb hby d25_19) rfl (feq hc19_12).2 (by decide) (by decide) ?_
              refine XS.iinc X0.here hx rfl (hb hby d25_25) rfl (l' := #[rv u0, iv (58 : Int32), iv p2, iv z, iv (58 : Int32), iv (((p2 + (1 : Int32)) + (1 : Int32)) + (1 : Int32))]) rfl ?_
              refine XS.goto X0.here hx rfl (pc0 := 28) (pc' := 7) rfl (hb hby d25_28) (by decide) (by decide) ?_
              refine XS.iload X0.here hx rfl (hb hby d25_7) rfl ?_
              refine XS.iloadN X0.here hx rfl (hb hby d25_9) rfl ?_
              refine XS.icmpYes X0.here hx rfl (pc0 := 10) (pc' := 31) rfl (hb hby d25_10) rfl (flt (own_ik3 hf0 hf1 hz4)).2.1 (by decide) (by decide) ?_
              refine XS.iconst X0.here hx rfl (hb hby d25_31) ?_
              show Steps _ _ _ (s₁.setTop (mkF m 32 #[rv u0, iv (58 : Int32), iv p2, iv z, iv (58 : Int32), iv (((p2 + (1 : Int32)) + (1 : Int32)) + (1 : Int32))] [(.int (-1 : Int32))])) _
              exact retI X0 hx Bd.returns (hb hby d25_32) hr
            · show own_QP (some (.int (own_iy p2 z vs))) h0 n0 _ s₁.heap _
              rw [e0]
              exact ⟨(congrArg (fun q => some (Value.int q)) (by unfold own_iy; rw [if_neg hc19_2, if_pos hc10_4, if_neg hc19_7, if_pos hc10_9, if_neg hc19_12])), N0, rfl⟩
        · obtain ⟨fs, hr, hrun, hended, hW, hsame⟩ := X0.leave (v := some (.int (-1 : Int32))) (fun h => by rw [Bd.returns] at h; cases h)
          refine ⟨_, _, pre10 _ ?_, hrun, hended, _, _, rfl, ?_, ⟨_, rfl⟩, hW, hsame.mono (by decide) (by decide)⟩
          · refine XS.icmpYes X0.here hx rfl (pc0 := 10) (pc' := 31) rfl (hb hby d25_10) rfl (flt hc10_9).2.1 (by decide) (by decide) ?_
            refine XS.iconst X0.here hx rfl (hb hby d25_31) ?_
            show Steps _ _ _ (s₁.setTop (mkF m 32 #[rv u0, iv (58 : Int32), iv p2, iv z, iv (58 : Int32), iv ((p2 + (1 : Int32)) + (1 : Int32))] [(.int (-1 : Int32))])) _
            exact retI X0 hx Bd.returns (hb hby d25_32) hr
          · show own_QP (some (.int (own_iy p2 z vs))) h0 n0 _ s₁.heap _
            rw [e0]
            exact ⟨(congrArg (fun q => some (Value.int q)) (by unfold own_iy; rw [if_neg hc19_2, if_pos hc10_4, if_neg hc19_7, if_neg hc10_9])), N0, rfl⟩
    · obtain ⟨fs, hr, hrun, hended, hW, hsame⟩ := X0.leave (v := some (.int (-1 : Int32))) (fun h => by rw [Bd.returns] at h; cases h)
      refine ⟨_, _, pre5 _ ?_, hrun, hended, _, _, rfl, ?_, ⟨_, rfl⟩, hW, hsame.mono (by decide) (by decide)⟩
      · show Steps _ _ _ (s₁.setTop (mkF m 10 #[rv u0, iv (58 : Int32), iv p2, iv z, iv (58 : Int32), iv (p2 + (1 : Int32))] [(.int z), (.int (p2 + (1 : Int32)))])) _
        refine XS.icmpYes X0.here hx rfl (pc0 := 10) (pc' := 31) rfl (hb hby d25_10) rfl (flt hc10_4).2.1 (by decide) (by decide) ?_
        refine XS.iconst X0.here hx rfl (hb hby d25_31) ?_
        show Steps _ _ _ (s₁.setTop (mkF m 32 #[rv u0, iv (58 : Int32), iv p2, iv z, iv (58 : Int32), iv (p2 + (1 : Int32))] [(.int (-1 : Int32))])) _
        exact retI X0 hx Bd.returns (hb hby d25_32) hr
      · show own_QP (some (.int (own_iy p2 z vs))) h0 n0 _ s₁.heap _
        rw [e0]
        exact ⟨(congrArg (fun q => some (Value.int q)) (by unfold own_iy; rw [if_neg hc19_2, if_neg hc10_4])), N0, rfl⟩

theorem ef_rmILb (m : MethodId) (x0 : Addr) (x1 : Int32) (x2 : Int32) (x3 : Int32) : entryFrame m #[(.ref x0), (.int x1), (.int x2), (.int x3)] 4 = mkF m 0 #[rv x0, iv x1, iv x2, iv x3] [] := by first | (simp [entryFrame, mkF, argsToLocals, Value.category]; done) | rfl
set_option maxRecDepth 65536 in
set_option maxHeartbeats 40000000 in
theorem rmILb (l : Launch) (Z : State) (a0 : Array Value) (hw : ∀ d ∈ tables_1, d.before a0 Z = true) (ws : List Jvm.Cond) (u0 : Addr) (p2 : Int32) (kt : ClassId) (z : Int32) (vs : List Value) (h0 : Heap) (n0 : Nat) (Z0 : n0 ≤ h0.size) (P_G_u0 : Arv Z h0 u0 kt .byte z vs (.int 0)) (hz4 : ¬ (4 : Int32) < z) (hf0 : (0 : Int32) < p2) (hf1 : p2 < z) :
    own_MF l own_y18 (Jvm.Cond.code own_y18 jdk_43_method_22_code 4 (some .int)) ws ({ frames := 1, cells := 0, slots := 0, locals := 17 } : Room) #[(.ref u0), (.int (58 : Int32)), (.int p2), (.int z)] Z h0 (own_QP (some (.int (own_iy p2 z vs))) h0 n0) := by
  refine MetFree.of_bodySF (plainFor_of_name pn_15) hisR ?_
  intro p e s m args below meth c s₁ Bd hml0 hP hK
  obtain ⟨rfl, hZ, hh⟩ := hP
  have hx := Bd.exec
  have hby := Bd.bytes
  have hml : c.maxLocals = 4 := hml0
  have hown : s.vm.findClass "java/lang/StringLatin1" = some m.cls := findClass_of_methodNamed Bd.named
  have hnm := (name_of_methodNamed Bd.named Bd.method).1
  have X0 : Stand p l e ({ frames := 1, cells := 0, slots := 0, locals := 17 } : Room) s m #[(.ref u0), (.int (58 : Int32)), (.int p2), (.int z)] below meth c s₁ [] 0 0 := Stand.of_body Bd
  have e0 : s₁.heap = h0 := by rw [← hh, Bd.state]; rfl
  have N0 := Fr.nil n0
  have pre0 : ∀ t, Steps p.tables e below (s₁.setTop (mkF m 0 #[rv u0, iv (58 : Int32), iv p2, iv z] [])) t → Steps p.tables e below (s₁.setTop (entryFrame m #[(.ref u0), (.int (58 : Int32)), (.int p2), (.int z)] 4)) t := fun t k => castTop (ef_rmILb m u0 (58 : Int32) p2 z) k
  obtain ⟨_, _, ⟨T1, L1, k1, n1⟩, -, X1, ⟨Lc1, hQ1, l1, y1, z1⟩, st1⟩ := Jvm.LawKit.callS X0 hx (y := own_y11) hown (mvT hZ (own_g hw 103 rfl)) (mvT hZ (own_g hw 104 rfl)) (mvT hZ (own_g hw 101 rfl)) (mvT hZ (own_g hw 105 rfl)) (by decide) (backOf (W := 0) (rmCE l Z a0 hw []  h0 n0 Z0 ) hZ (own_g hw 105 rfl) (own_g hw 101 rfl) (by decide) (by decide)) (g := (mkF m 1 #[rv u0, iv (58 : Int32), iv p2, iv z] [(.int (58 : Int32))])) rfl (by rw [hml]; rfl) (argsL := [(.int (58 : Int32))]) (rest := []) (lenOf pd__I_Z rfl) rfl (by show 2 * 0 + _ ≤ _; exact Nat.le_of_eq rfl) (hb hby d15_1) (fun _ _ => ⟨rfl, e0, (by decide : 0 + 0 ≤ _), (by decide : 0 + 0 ≤ _)⟩)
  dsimp only [Pt.U, Pt.locs, Pt.cells, Pt.slots] at X1 l1 y1 z1 st1 hQ1
  subst l1 y1 z1
  obtain ⟨rfl, N1q, e1⟩ := hQ1
  have N1 := Fr.app N0 N1q
  obtain ⟨_, _, ⟨T2, L2, k2, n2⟩, -, X2, ⟨Lc2, hQ2, l2, y2, z2⟩, st2⟩ := Jvm.LawKit.callS X1 hx (y := own_y9) hown (mvT hZ (own_g hw 106 rfl)) (mvT hZ (own_g hw 107 rfl)) (mvT hZ (own_g hw 108 rfl)) (mvT hZ (own_g hw 109 rfl)) (by decide) (backOf (W := 0) (rmMx l Z a0 hw [] p2 (0 : Int32) h0 n0 Z0 (own_nlt hf0)) hZ (own_g hw 109 rfl) (own_g hw 108 rfl) (by decide) (by decide)) (g := (mkF m 11 #[rv u0, iv (58 : Int32), iv p2, iv z] [(.int (0 : Int32)), (.int p2)])) rfl (by rw [hml]; rfl) (argsL := [(.int p2), (.int (0 : Int32))]) (rest := []) (lenOf pd__II_I rfl) rfl (by show 2 * 0 + _ ≤ _; exact Nat.le_of_eq rfl) (hb hby d15_11) (fun _ _ => ⟨rfl, e1, (by decide : 0 + 0 ≤ _), (by decide : 0 + 0 ≤ _)⟩)
  dsimp only [Pt.U, Pt.locs, Pt.cells, Pt.slots] at X2 l2 y2 z2 st2 hQ2
  subst l2 y2 z2
  obtain ⟨rfl, N2q, e2⟩ := hQ2
  have N2 := Fr.app N1 N2q
  obtain ⟨cl3, Ar3, qq3, S3, N3_, H3, G3⟩ := id P_G_u0
  obtain ⟨_, _, ⟨T4, L4, k4, n4⟩, -, X4, ⟨Lc4, hQ4, l4, y4, z4⟩, st4⟩ := Jvm.LawKit.callS X2 hx (y := own_y10) hown (mvT hZ (own_g hw 110 rfl)) (mvT hZ (own_g hw 111 rfl)) (mvT hZ (own_g hw 108 rfl)) (mvT hZ (own_g hw 112 rfl)) (by decide) (backOf (W := 0) (rmMi l Z a0 hw [] z z h0 n0 Z0 ) hZ (own_g hw 112 rfl) (own_g hw 108 rfl) (by decide) (by decide)) (g := (mkF m 18 #[rv u0, iv (58 : Int32), iv p2, iv z] [(.int z), (.int z)])) rfl (by rw [hml]; rfl) (argsL := [(.int z), (.int z)]) (rest := []) (lenOf pd__II_I rfl) rfl (by show 2 * 0 + _ ≤ _; exact Nat.le_of_eq rfl) (hb hby d15_18) (fun _ _ => ⟨rfl, e2, (by decide : 0 + 0 ≤ _), (by decide : 0 + 0 ≤ _)⟩)
  dsimp only [Pt.U, Pt.locs, Pt.cells, Pt.slots] at X4 l4 y4 z4 st4 hQ4
  subst l4 y4 z4
  obtain ⟨rfl, N4q, e4⟩ := hQ4
  have N4 := Fr.app N2 N4q
  have pre5 : ∀ t, Steps p.tables e below (T4.setTop (mkF m 21 #[rv u0, iv (58 : Int32), iv p2, iv z] [(.int (own_min z z))])) t → Steps p.tables e below (s₁.setTop (entryFrame m #[(.ref u0), (.int (58 : Int32)), (.int p2), (.int z)] 4)) t := fun t kt => pre0 t (by
   refine XS.iloadN X0.here hx rfl (hb hby d15_0) rfl ?_
   show Steps _ _ _ (s₁.setTop (mkF m 1 #[rv u0, iv (58 : Int32), iv p2, iv z] [(.int (58 : Int32))])) _
   refine st1 _ ?_
   refine XS.ifYes X1.here hx rfl (pc0 := 4) (pc' := 9) rfl (hb hby d15_4) rfl ((if0 _ _).trans (feq (by decide : ¬ ((1 : Int32) = (0 : Int32)))).2) (by decide) (by decide) ?_
   refine XS.iloadN X1.here hx rfl (hb hby d15_9) rfl ?_
   refine XS.iconst X1.here hx rfl (hb hby d15_10) ?_
   show Steps _ _ _ (T1.setTop (mkF m 11 #[rv u0, iv (58 : Int32), iv p2, iv z] [(.int (0 : Int32)), (.int p2)])) _
   refine st2 _ ?_
   refine XS.istoreN X2.here hx rfl (hb hby d15_14) rfl (l' := #[rv u0, iv (58 : Int32), iv p2, iv z]) rfl ?_
   refine XS.iloadN X2.here hx rfl (hb hby d15_15) rfl ?_
   refine XS.aloadN X2.here hx rfl (hb hby d15_16) rfl rfl ?_
   refine X2.arraylength hx (by rw [e2]; exact Ar3.1) (State.isArrayOf_alike hZ.alike Ar3.2.1) (g := (mkF m 17 #[rv u0, iv (58 : Int32), iv p2, iv z] [(.ref u0), (.int z)])) rfl rfl (hb hby d15_17) _ ?_
   rw [len_of S3 N3_]
   show Steps _ _ _ (T2.setTop (mkF m 18 #[rv u0, iv (58 : Int32), iv p2, iv z] [(.int z), (.int z)])) _
   refine st4 _ ?_
   exact kt)
  rw [own_minz z] at pre5
  obtain ⟨_, _, ⟨T6, L6, k6, n6⟩, -, X6, ⟨Lc6, hQ6, l6, y6, z6⟩, st6⟩ := Jvm.LawKit.callS X4 hx (y := own_y17) hown (mvT hZ (own_g hw 150 rfl)) (mvT hZ (own_g hw 151 rfl)) (mvT hZ (own_g hw 101 rfl)) (mvT hZ (own_g hw 152 rfl)) (by decide) (backOf (W := 0) (rmICb l Z a0 hw [] u0 p2 kt z vs h0 n0 Z0 P_G_u0 hz4 hf0 hf1) hZ (own_g hw 152 rfl) (own_g hw 101 rfl) (by decide) (by decide)) (g := (mkF m 33 #[rv u0, iv (58 : Int32), iv p2, iv z] [(.int z), (.int p2), (.int (58 : Int32)), (.ref u0)])) rfl (by rw [hml]; rfl) (argsL := [(.ref u0), (.int (58 : Int32)), (.int p2), (.int z)]) (rest := []) (lenOf pd___BIII_I rfl) rfl (by show 2 * 0 + _ ≤ _; exact Nat.le_of_eq rfl) (hb hby d15_33) (fun _ _ => ⟨rfl, e4, (by decide : 0 + 0 ≤ _), (by decide : 0 + 0 ≤ _)⟩)
  dsimp only [Pt.U, Pt.locs, Pt.cells, Pt.slots] at X6 l6 y6 z6 st6 hQ6
  subst l6 y6 z6
  obtain ⟨rfl, N6q, e6⟩ := hQ6
  have N6 := Fr.app N4 N6q
  obtain ⟨fs, hr, hrun, hended, hW, hsame⟩ := X6.leave (v := some (.int (own_iy p2 z vs))) (fun h => by rw [Bd.returns] at h; cases h)
  refine ⟨_, _, pre5 _ ?_, hrun, hended, _, _, rfl, ?_, ⟨_, rfl⟩, hW, hsame.mono (by decide) (by decide)⟩
  · refine XS.istoreN X4.here hx rfl (hb hby d15_21) rfl (l' := #[rv u0, iv (58 : Int32), iv p2, iv z]) rfl ?_
    refine XS.iloadN X4.here hx rfl (hb hby d15_22) rfl ?_
    refine XS.iloadN X4.here hx rfl (hb hby d15_23) rfl ?_
    refine XS.icmpYes X4.here hx rfl (pc0 := 24) (pc' := 29) rfl (hb hby d15_24) rfl (tlt hf1).1 (by decide) (by decide) ?_
    refine XS.aloadN X4.here hx rfl (hb hby d15_29) rfl rfl ?_
    refine XS.iloadN X4.here hx rfl (hb hby d15_30) rfl ?_
    refine XS.iloadN X4.here hx rfl (hb hby d15_31) rfl ?_
    refine XS.iloadN X4.here hx rfl (hb hby d15_32) rfl ?_
    show Steps _ _ _ (T4.setTop (mkF m 33 #[rv u0, iv (58 : Int32), iv p2, iv z] [(.int z), (.int p2), (.int (58 : Int32)), (.ref u0)])) _
    refine st6 _ ?_
    show Steps _ _ _ (T6.setTop (mkF m 36 #[rv u0, iv (58 : Int32), iv p2, iv z] [(.int (own_iy p2 z vs))])) _
    exact retI X6 hx Bd.returns (hb hby d15_36) hr
  · show own_QP (some (.int (own_iy p2 z vs))) h0 n0 _ T6.heap _
    rw [e6]
    exact ⟨rfl, N6, rfl⟩

theorem ef_rmI2b (m : MethodId) (x0 : Addr) (x1 : Int32) (x2 : Int32) : entryFrame m #[(.ref x0), (.int x1), (.int x2)] 3 = mkF m 0 #[rv x0, iv x1, iv x2] [] := by first | (simp [entryFrame, mkF, argsToLocals, Value.category]; done) | rfl
set_option maxRecDepth 65536 in
set_option maxHeartbeats 40000000 in
theorem rmI2b (l : Launch) (Z : State) (a0 : Array Value) (hw : ∀ d ∈ tables_1, d.before a0 Z = true) (ws : List Jvm.Cond) (u0 : Addr) (p2 : Int32) (tv : Addr) (kt : ClassId) (z : Int32) (vs : List Value) (zC : Int32) (h0 : Heap) (n0 : Nat) (Z0 : n0 ≤ h0.size) (P_E_u0 : Exa Z h0 u0 "java/lang/String") (P_F_u0_String_value : Fld Z h0 u0 "java/lang/String" "value" "[B" (.ref tv)) (P_F_u0_String_coder : Fld Z h0 u0 "java/lang/String" "coder" "B" (.int (0 : Int32))) (P_G_tv : Arv Z h0 tv kt .byte z vs (.int 0)) (hz4 : ¬ (4 : Int32) < z) (hf0 : (0 : Int32) < p2) (hf1 : p2 < z) (P_S_String_COMPACT_STRINGS : Sta Z h0 "java/lang/String" "COMPACT_STRINGS" "Z" (.int zC)) (hz : ¬ (zC = (0 : Int32))) :
    own_MF l own_y19 (Jvm.Cond.code own_y19 jdk_42_method_80_code 3 (some .int)) ws ({ frames := 2, cells := 0, slots := 0, locals := 32 } : Room) #[(.ref u0), (.int (58 : Int32)), (.int p2)] Z h0 (own_QP (some (.int (own_iy p2 z vs))) h0 n0) := by
  refine MetFree.of_bodySF (plainFor_of_name pn_12) hisR ?_
  intro p e s m args below meth c s₁ Bd hml0 hP hK
  obtain ⟨rfl, hZ, hh⟩ := hP
  have hx := Bd.exec
  have hby := Bd.bytes
  have hml : c.maxLocals = 3 := hml0
  have hown : s.vm.findClass "java/lang/String" = some m.cls := findClass_of_methodNamed Bd.named
  have hnm := (name_of_methodNamed Bd.named Bd.method).1
  have X0 : Stand p l e ({ frames := 2, cells := 0, slots := 0, locals := 32 } : Room) s m #[(.ref u0), (.int (58 : Int32)), (.int p2)] below meth c s₁ [] 0 0 := Stand.of_body Bd
  have e0 : s₁.heap = h0 := by rw [← hh, Bd.state]; rfl
  have N0 := Fr.nil n0
  have pre0 : ∀ t, Steps p.tables e below (s₁.setTop (mkF m 0 #[rv u0, iv (58 : Int32), iv p2] [])) t → Steps p.tables e below (s₁.setTop (entryFrame m #[(.ref u0), (.int (58 : Int32)), (.int p2)] 3)) t := fun t k => castTop (ef_rmI2b m u0 (58 : Int32) p2) k
  obtain ⟨cq2, kq2, q2a, q2b, q2c⟩ := isOf hZ e0 P_E_u0
  obtain ⟨_, _, ⟨T1, L1, k1, n1⟩, -, X1, ⟨Lc1, hQ1, l1, y1, z1⟩, st1⟩ := X0.virtualBack hx (y := own_y7) (z := own_y7) hown (mvT hZ (own_g hw 89 rfl)) (mvT hZ (own_g hw 90 rfl)) (notFace_of_selects (args := #[]) (mvT hZ (own_g hw 92 rfl))) (mvT hZ (own_g hw 92 rfl)) (mvT hZ (own_g hw 91 rfl)) (by decide) (backOf (W := 0) (rmLa l Z a0 hw [] u0 zC h0 n0 Z0 P_F_u0_String_coder P_S_String_COMPACT_STRINGS hz) hZ (own_g hw 93 rfl) (own_g hw 8 rfl) (by decide) (by decide)) q2a q2c (g := (mkF m 1 #[rv u0, iv (58 : Int32), iv p2] [(.ref u0)])) rfl (by rw [hml]; rfl) (Steps.refl _) (argsL := []) (rest := []) (lenOf pd___Z rfl) rfl (by show 2 * 0 + _ ≤ _; exact Nat.le_of_eq rfl) (hb hby d12_1) (fun _ _ => ⟨rfl, e0, (by decide : 0 + 0 ≤ _), (by decide : 0 + 0 ≤ _)⟩)
  dsimp only [Pt.U, Pt.locs, Pt.cells, Pt.slots] at X1 l1 y1 z1 st1 hQ1
  subst l1 y1 z1
  obtain ⟨rfl, N1q, e1⟩ := hQ1
  have N1 := Fr.app N0 N1q
  obtain ⟨T3, X3, e3, st3⟩ := getF X1 hx hZ hown (host := "") (Or.inl (own_g hw 26 rfl)) Via.refl e1 P_F_u0_String_value (g := (mkF m 8 #[rv u0, iv (58 : Int32), iv p2] [(.ref u0)])) rfl rfl (hb hby d12_8)
  obtain ⟨cq5, kq5, q5a, q5b, q5c⟩ := isOf hZ e3 P_E_u0
  obtain ⟨_, _, ⟨T4, L4, k4, n4⟩, -, X4, ⟨Lc4, hQ4, l4, y4, z4⟩, st4⟩ := X3.virtualBack hx (y := own_y8) (z := own_y8) hown (mvT hZ (own_g hw 94 rfl)) (mvT hZ (own_g hw 95 rfl)) (notFace_of_selects (args := #[]) (mvT hZ (own_g hw 97 rfl))) (mvT hZ (own_g hw 97 rfl)) (mvT hZ (own_g hw 96 rfl)) (by decide) (backOf (W := 3) (rmLe l Z a0 hw [] u0 tv kt z vs zC h0 n0 Z0 P_E_u0 P_F_u0_String_value P_F_u0_String_coder P_G_tv P_S_String_COMPACT_STRINGS hz) hZ (own_g hw 98 rfl) (own_g hw 8 rfl) (by decide) (by decide)) q5a q5c (g := (mkF m 14 #[rv u0, iv (58 : Int32), iv p2] [(.ref u0), (.int p2), (.int (58 : Int32)), (.ref tv)])) rfl (by rw [hml]; rfl) (Steps.refl _) (argsL := []) (rest := [(.int p2), (.int (58 : Int32)), (.ref tv)]) (lenOf pd___I rfl) rfl (by show 2 * 0 + _ ≤ _; exact Nat.le_of_eq rfl) (hb hby d12_14) (fun _ _ => ⟨rfl, e3, (by decide : 0 + 0 ≤ _), (by decide : 0 + 0 ≤ _)⟩)
  dsimp only [Pt.U, Pt.locs, Pt.cells, Pt.slots] at X4 l4 y4 z4 st4 hQ4
  subst l4 y4 z4
  obtain ⟨rfl, N4q, e4⟩ := hQ4
  have N4 := Fr.app N1 N4q
  obtain ⟨_, _, ⟨T6, L6, k6, n6⟩, -, X6, ⟨Lc6, hQ6, l6, y6, z6⟩, st6⟩ := Jvm.LawKit.callS X4 hx (y := own_y18) hown (mvT hZ (own_g hw 99 rfl)) (mvT hZ (own_g hw 100 rfl)) (mvT hZ (own_g hw 101 rfl)) (mvT hZ (own_g hw 102 rfl)) (by decide) (backOf (W := 0) (rmILb l Z a0 hw [] tv p2 kt z vs h0 n0 Z0 P_G_tv hz4 hf0 hf1) hZ (own_g hw 102 rfl) (own_g hw 101 rfl) (by decide) (by decide)) (g := (mkF m 17 #[rv u0, iv (58 : Int32), iv p2] [(.int z), (.int p2), (.int (58 : Int32)), (.ref tv)])) rfl (by rw [hml]; rfl) (argsL := [(.ref tv), (.int (58 : Int32)), (.int p2), (.int z)]) (rest := []) (lenOf pd___BIII_I rfl) rfl (by show 2 * 0 + _ ≤ _; exact Nat.le_of_eq rfl) (hb hby d12_17) (fun _ _ => ⟨rfl, e4, (by decide : 0 + 0 ≤ _), (by decide : 0 + 0 ≤ _)⟩)
  dsimp only [Pt.U, Pt.locs, Pt.cells, Pt.slots] at X6 l6 y6 z6 st6 hQ6
  subst l6 y6 z6
  obtain ⟨rfl, N6q, e6⟩ := hQ6
  have N6 := Fr.app N4 N6q
  obtain ⟨fs, hr, hrun, hended, hW, hsame⟩ := X6.leave (v := some (.int (own_iy p2 z vs))) (fun h => by rw [Bd.returns] at h; cases h)
  refine ⟨_, _, pre0 _ ?_, hrun, hended, _, _, rfl, ?_, ⟨_, rfl⟩, hW, hsame.mono (by decide) (by decide)⟩
  · refine XS.aloadN X0.here hx rfl (hb hby d12_0) rfl rfl ?_
    show Steps _ _ _ (s₁.setTop (mkF m 1 #[rv u0, iv (58 : Int32), iv p2] [(.ref u0)])) _
    refine st1.trans ?_
    refine XS.ifNo X1.here hx rfl (hb hby d12_4) rfl ((if0 _ _).trans (feq (by decide : ¬ ((1 : Int32) = (0 : Int32)))).1) ?_
    refine XS.aloadN X1.here hx rfl (hb hby d12_7) rfl rfl ?_
    refine st3 _ ?_
    refine XS.iloadN X3.here hx rfl (hb hby d12_11) rfl ?_
    refine XS.iloadN X3.here hx rfl (hb hby d12_12) rfl ?_
    refine XS.aloadN X3.here hx rfl (hb hby d12_13) rfl rfl ?_
    show Steps _ _ _ (T3.setTop (mkF m 14 #[rv u0, iv (58 : Int32), iv p2] [(.ref u0), (.int p2), (.int (58 : Int32)), (.ref tv)])) _
    refine st4.trans ?_
    show Steps _ _ _ (T4.setTop (mkF m 17 #[rv u0, iv (58 : Int32), iv p2] [(.int z), (.int p2), (.int (58 : Int32)), (.ref tv)])) _
    refine st6 _ ?_
    refine XS.goto X6.here hx rfl (pc0 := 20) (pc' := 36) rfl (hb hby d12_20) (by decide) (by decide) ?_
    show Steps _ _ _ (T6.setTop (mkF m 36 #[rv u0, iv (58 : Int32), iv p2] [(.int (own_iy p2 z vs))])) _
    exact retI X6 hx Bd.returns (hb hby d12_36) hr
  · show own_QP (some (.int (own_iy p2 z vs))) h0 n0 _ T6.heap _
    rw [e6]
    exact ⟨rfl, N6, rfl⟩

theorem ef_rmCL (m : MethodId) (x0 : Addr) (x1 : Int32) : entryFrame m #[(.ref x0), (.int x1)] 2 = mkF m 0 #[rv x0, iv x1] [] := by first | (simp [entryFrame, mkF, argsToLocals, Value.category]; done) | rfl
set_option maxRecDepth 65536 in
set_option maxHeartbeats 40000000 in
theorem rmCL (l : Launch) (Z : State) (a0 : Array Value) (hw : ∀ d ∈ tables_1, d.before a0 Z = true) (ws : List Jvm.Cond) (u0 : Addr) (p1 : Int32) (kt : ClassId) (z : Int32) (vs : List Value) (fv : Value) (h0 : Heap) (n0 : Nat) (Z0 : n0 ≤ h0.size) (P_G_u0 : Arv Z h0 u0 kt .byte z vs (.int 0)) (P_S_Preconditions_SIOOBE_FORMATTER : Sta Z h0 "jdk/internal/util/Preconditions" "SIOOBE_FORMATTER" "Ljava/util/function/BiFunction;" fv) (hfv : (fv = .null ∨ ∃ a, fv = .ref a)) (hi0 : ¬ p1 < 0) (hi1 : p1 < z) :
    own_MF l own_y21 (Jvm.Cond.code own_y21 jdk_43_method_2_code 2 (some .char)) ws ({ frames := 2, cells := 0, slots := 0, locals := 27 } : Room) #[(.ref u0), (.int p1)] Z h0 (own_QP (some (.int (own_ch (own_at vs p1)))) h0 n0) := by
  refine MetFree.of_bodySF (plainFor_of_name pn_36) hisR ?_
  intro p e s m args below meth c s₁ Bd hml0 hP hK
  obtain ⟨rfl, hZ, hh⟩ := hP
  have hx := Bd.exec
  have hby := Bd.bytes
  have hml : c.maxLocals = 2 := hml0
  have hown : s.vm.findClass "java/lang/StringLatin1" = some m.cls := findClass_of_methodNamed Bd.named
  have hnm := (name_of_methodNamed Bd.named Bd.method).1
  have X0 : Stand p l e ({ frames := 2, cells := 0, slots := 0, locals := 27 } : Room) s m #[(.ref u0), (.int p1)] below meth c s₁ [] 0 0 := Stand.of_body Bd
  have e0 : s₁.heap = h0 := by rw [← hh, Bd.state]; rfl
  have N0 := Fr.nil n0
  have pre0 : ∀ t, Steps p.tables e below (s₁.setTop (mkF m 0 #[rv u0, iv p1] [])) t → Steps p.tables e below (s₁.setTop (entryFrame m #[(.ref u0), (.int p1)] 2)) t := fun t k => castTop (ef_rmCL m u0 p1) k
  obtain ⟨cl1, Ar1, qq1, S1, N1_, H1, G1⟩ := id P_G_u0
  obtain ⟨_, _, ⟨T2, L2, k2, n2⟩, -, X2, ⟨Lc2, hQ2, l2, y2, z2⟩, st2⟩ := Jvm.LawKit.callS X0 hx (y := own_y15) hown (mvT hZ (own_g hw 205 rfl)) (mvT hZ (own_g hw 206 rfl)) (mvT hZ (own_g hw 8 rfl)) (mvT hZ (own_g hw 207 rfl)) (by decide) (backOf (W := 0) (rmSI l Z a0 hw [] p1 z fv h0 n0 Z0 P_S_Preconditions_SIOOBE_FORMATTER hfv hi0 hi1) hZ (own_g hw 207 rfl) (own_g hw 8 rfl) (by decide) (by decide)) (g := (mkF m 3 #[rv u0, iv p1] [(.int z), (.int p1)])) rfl (by rw [hml]; rfl) (argsL := [(.int p1), (.int z)]) (rest := []) (lenOf pd__II_V rfl) rfl (by show 2 * 0 + _ ≤ _; exact Nat.le_of_eq rfl) (hb hby d36_3) (fun _ _ => ⟨rfl, e0, (by decide : 0 + 0 ≤ _), (by decide : 0 + 0 ≤ _)⟩)
  dsimp only [Pt.U, Pt.locs, Pt.cells, Pt.slots] at X2 l2 y2 z2 st2 hQ2
  subst l2 y2 z2
  obtain ⟨rfl, N2q, e2⟩ := hQ2
  have N2 := Fr.app N0 N2q
  obtain ⟨cl3, Ar3, qq3, S3, N3_, H3, G3⟩ := id P_G_u0
  have hin3 : ¬ (p1 < 0 ∨ cl3.slots.size ≤ (p1).toNatClampNeg) := inb_of S3 ⟨hi0, hi1⟩
  have hat3 : cl3.slots[(p1).toNatClampNeg]? = some (.int (own_at vs p1)) := own_atv H3 G3 hin3
  obtain ⟨fs, hr, hrun, hended, hW, hsame⟩ := X2.leave (v := some (.int (nar .char (((own_at vs p1) &&& (255 : Int32)).toUInt32.toUInt16.toUInt32.toInt32)))) (fun h => by rw [Bd.returns] at h; cases h)
  refine ⟨_, _, pre0 _ ?_, hrun, hended, _, _, rfl, ?_, ⟨_, rfl⟩, hW, hsame.mono (by decide) (by decide)⟩
  · refine XS.iloadN X0.here hx rfl (hb hby d36_0) rfl ?_
    refine XS.aloadN X0.here hx rfl (hb hby d36_1) rfl rfl ?_
    refine X0.arraylength hx (by rw [e0]; exact Ar1.1) (State.isArrayOf_alike hZ.alike Ar1.2.1) (g := (mkF m 2 #[rv u0, iv p1] [(.ref u0), (.int p1)])) rfl rfl (hb hby d36_2) _ ?_
    rw [len_of S1 N1_]
    show Steps _ _ _ (s₁.setTop (mkF m 3 #[rv u0, iv p1] [(.int z), (.int p1)])) _
    refine st2 _ ?_
    refine XS.aloadN X2.here hx rfl (hb hby d36_6) rfl rfl ?_
    refine XS.iloadN X2.here hx rfl (hb hby d36_7) rfl ?_
    refine X2.baloadBytes hx (j := p1) (v := (.int (own_at vs p1))) (by rw [e2]; exact Ar3.1) (State.isArrayOf_alike hZ.alike Ar3.2.1) Ar3.2.2 hin3 hat3 (g := (mkF m 8 #[rv u0, iv p1] [(.int p1), (.ref u0)])) rfl rfl (hb hby d36_8) _ ?_
    refine XS.sipush X2.here hx rfl (hb hby d36_9) ?_
    refine XS.iand X2.here hx rfl (hb hby d36_12) rfl ?_
    refine XS.i2c X2.here hx rfl (hb hby d36_13) rfl ?_
    show Steps _ _ _ (T2.setTop (mkF m 14 #[rv u0, iv p1] [(.int (((own_at vs p1) &&& (255 : Int32)).toUInt32.toUInt16.toUInt32.toInt32))])) _
    exact retN X2 hx (t := .char) Bd.returns (by simp) (hb hby d36_14) hr
  · show own_QP (some (.int (own_ch (own_at vs p1)))) h0 n0 _ T2.heap _
    rw [e2]
    exact ⟨rfl, N2, rfl⟩

theorem ef_rmCA (m : MethodId) (x0 : Addr) (x1 : Int32) : entryFrame m #[(.ref x0), (.int x1)] 2 = mkF m 0 #[rv x0, iv x1] [] := by first | (simp [entryFrame, mkF, argsToLocals, Value.category]; done) | rfl
set_option maxRecDepth 65536 in
set_option maxHeartbeats 40000000 in
theorem rmCA (l : Launch) (Z : State) (a0 : Array Value) (hw : ∀ d ∈ tables_1, d.before a0 Z = true) (ws : List Jvm.Cond) (u0 : Addr) (p1 : Int32) (tv : Addr) (kt : ClassId) (z : Int32) (vs : List Value) (zC : Int32) (fv : Value) (h0 : Heap) (n0 : Nat) (Z0 : n0 ≤ h0.size) (P_E_u0 : Exa Z h0 u0 "java/lang/String") (P_F_u0_String_value : Fld Z h0 u0 "java/lang/String" "value" "[B" (.ref tv)) (P_F_u0_String_coder : Fld Z h0 u0 "java/lang/String" "coder" "B" (.int (0 : Int32))) (P_G_tv : Arv Z h0 tv kt .byte z vs (.int 0)) (P_S_String_COMPACT_STRINGS : Sta Z h0 "java/lang/String" "COMPACT_STRINGS" "Z" (.int zC)) (hz : ¬ (zC = (0 : Int32))) (P_S_Preconditions_SIOOBE_FORMATTER : Sta Z h0 "jdk/internal/util/Preconditions" "SIOOBE_FORMATTER" "Ljava/util/function/BiFunction;" fv) (hfv : (fv = .null ∨ ∃ a, fv = .ref a)) (hi0 : ¬ p1 < 0) (hi1 : p1 < z) :
    own_MF l own_y22 (Jvm.Cond.code own_y22 jdk_42_method_56_code 2 (some .char)) ws ({ frames := 3, cells := 0, slots := 0, locals := 40 } : Room) #[(.ref u0), (.int p1)] Z h0 (own_QP (some (.int (nar .char (own_ch (own_at vs p1))))) h0 n0) := by
  refine MetFree.of_bodySF (plainFor_of_name pn_35) hisR ?_
  intro p e s m args below meth c s₁ Bd hml0 hP hK
  obtain ⟨rfl, hZ, hh⟩ := hP
  have hx := Bd.exec
  have hby := Bd.bytes
  have hml : c.maxLocals = 2 := hml0
  have hown : s.vm.findClass "java/lang/String" = some m.cls := findClass_of_methodNamed Bd.named
  have hnm := (name_of_methodNamed Bd.named Bd.method).1
  have X0 : Stand p l e ({ frames := 3, cells := 0, slots := 0, locals := 40 } : Room) s m #[(.ref u0), (.int p1)] below meth c s₁ [] 0 0 := Stand.of_body Bd
  have e0 : s₁.heap = h0 := by rw [← hh, Bd.state]; rfl
  have N0 := Fr.nil n0
  have pre0 : ∀ t, Steps p.tables e below (s₁.setTop (mkF m 0 #[rv u0, iv p1] [])) t → Steps p.tables e below (s₁.setTop (entryFrame m #[(.ref u0), (.int p1)] 2)) t := fun t k => castTop (ef_rmCA m u0 p1) k
  obtain ⟨cq2, kq2, q2a, q2b, q2c⟩ := isOf hZ e0 P_E_u0
  obtain ⟨_, _, ⟨T1, L1, k1, n1⟩, -, X1, ⟨Lc1, hQ1, l1, y1, z1⟩, st1⟩ := X0.virtualBack hx (y := own_y7) (z := own_y7) hown (mvT hZ (own_g hw 89 rfl)) (mvT hZ (own_g hw 90 rfl)) (notFace_of_selects (args := #[]) (mvT hZ (own_g hw 92 rfl))) (mvT hZ (own_g hw 92 rfl)) (mvT hZ (own_g hw 91 rfl)) (by decide) (backOf (W := 0) (rmLa l Z a0 hw [] u0 zC h0 n0 Z0 P_F_u0_String_coder P_S_String_COMPACT_STRINGS hz) hZ (own_g hw 93 rfl) (own_g hw 8 rfl) (by decide) (by decide)) q2a q2c (g := (mkF m 1 #[rv u0, iv p1] [(.ref u0)])) rfl (by rw [hml]; rfl) (Steps.refl _) (argsL := []) (rest := []) (lenOf pd___Z rfl) rfl (by show 2 * 0 + _ ≤ _; exact Nat.le_of_eq rfl) (hb hby d35_1) (fun _ _ => ⟨rfl, e0, (by decide : 0 + 0 ≤ _), (by decide : 0 + 0 ≤ _)⟩)
  dsimp only [Pt.U, Pt.locs, Pt.cells, Pt.slots] at X1 l1 y1 z1 st1 hQ1
  subst l1 y1 z1
  obtain ⟨rfl, N1q, e1⟩ := hQ1
  have N1 := Fr.app N0 N1q
  obtain ⟨T3, X3, e3, st3⟩ := getF X1 hx hZ hown (host := "") (Or.inl (own_g hw 26 rfl)) Via.refl e1 P_F_u0_String_value (g := (mkF m 8 #[rv u0, iv p1] [(.ref u0)])) rfl rfl (hb hby d35_8)
  obtain ⟨_, _, ⟨T4, L4, k4, n4⟩, -, X4, ⟨Lc4, hQ4, l4, y4, z4⟩, st4⟩ := Jvm.LawKit.callS X3 hx (y := own_y21) hown (mvT hZ (own_g hw 202 rfl)) (mvT hZ (own_g hw 203 rfl)) (mvT hZ (own_g hw 101 rfl)) (mvT hZ (own_g hw 204 rfl)) (by decide) (backOf (W := 0) (rmCL l Z a0 hw [] tv p1 kt z vs fv h0 n0 Z0 P_G_tv P_S_Preconditions_SIOOBE_FORMATTER hfv hi0 hi1) hZ (own_g hw 204 rfl) (own_g hw 101 rfl) (by decide) (by decide)) (g := (mkF m 12 #[rv u0, iv p1] [(.int p1), (.ref tv)])) rfl (by rw [hml]; rfl) (argsL := [(.ref tv), (.int p1)]) (rest := []) (lenOf pd___BI_C rfl) rfl (by show 2 * 0 + _ ≤ _; exact Nat.le_of_eq rfl) (hb hby d35_12) (fun _ _ => ⟨rfl, e3, (by decide : 0 + 0 ≤ _), (by decide : 0 + 0 ≤ _)⟩)
  dsimp only [Pt.U, Pt.locs, Pt.cells, Pt.slots] at X4 l4 y4 z4 st4 hQ4
  subst l4 y4 z4
  obtain ⟨rfl, N4q, e4⟩ := hQ4
  have N4 := Fr.app N1 N4q
  obtain ⟨fs, hr, hrun, hended, hW, hsame⟩ := X4.leave (v := some (.int (nar .char (own_ch (own_at vs p1))))) (fun h => by rw [Bd.returns] at h; cases h)
  refine ⟨_, _, pre0 _ ?_, hrun, hended, _, _, rfl, ?_, ⟨_, rfl⟩, hW, hsame.mono (by decide) (by decide)⟩
  · refine XS.aloadN X0.here hx rfl (hb hby d35_0) rfl rfl ?_
    show Steps _ _ _ (s₁.setTop (mkF m 1 #[rv u0, iv p1] [(.ref u0)])) _
    refine st1.trans ?_
    refine XS.ifNo X1.here hx rfl (hb hby d35_4) rfl ((if0 _ _).trans (feq (by decide : ¬ ((1 : Int32) = (0 : Int32)))).1) ?_
    refine XS.aloadN X1.here hx rfl (hb hby d35_7) rfl rfl ?_
    refine st3 _ ?_
    refine XS.iloadN X3.here hx rfl (hb hby d35_11) rfl ?_
    show Steps _ _ _ (T3.setTop (mkF m 12 #[rv u0, iv p1] [(.int p1), (.ref tv)])) _
    refine st4 _ ?_
    show Steps _ _ _ (T4.setTop (mkF m 15 #[rv u0, iv p1] [(.int (own_ch (own_at vs p1)))])) _
    exact retN X4 hx (t := .char) Bd.returns (by simp) (hb hby d35_15) hr
  · show own_QP (some (.int (nar .char (own_ch (own_at vs p1))))) h0 n0 _ T4.heap _
    rw [e4]
    exact ⟨rfl, N4, rfl⟩

theorem ef_rmNS (m : MethodId) (x0 : Int32) : entryFrame m #[(.int x0)] 1 = mkF m 0 #[iv x0] [] := by first | (simp [entryFrame, mkF, argsToLocals, Value.category]; done) | rfl
set_option maxRecDepth 65536 in
set_option maxHeartbeats 40000000 in
theorem rmNS (l : Launch) (Z : State) (a0 : Array Value) (hw : ∀ d ∈ tables_1, d.before a0 Z = true) (ws : List Jvm.Cond) (p0 : Int32) (kd : Addr) (kK : ClassId) (vK : List Value) (h0 : Heap) (n0 : Nat) (Z0 : n0 ≤ h0.size) (P_S_Name_KIND : Sta Z h0 "com/example/bundlewright/bundlewright/core/Name" "KIND" "[B" (.ref kd)) (P_G_kd : Arv Z h0 kd kK .byte (128 : Int32) vK (.int 0)) :
    own_MF l own_y23 (Jvm.Cond.code own_y23 prog_31_method_2_code 1 (some .boolean)) ws ({ frames := 0, cells := 0, slots := 0, locals := 0 } : Room) #[(.int p0)] Z h0 (own_QP (some (.int (own_ns vK p0))) h0 n0) := by
  refine MetFree.of_bodySF (plainFor_of_name pn_39) hisR ?_
  intro p e s m args below meth c s₁ Bd hml0 hP hK
  obtain ⟨rfl, hZ, hh⟩ := hP
  have hx := Bd.exec
  have hby := Bd.bytes
  have hml : c.maxLocals = 1 := hml0
  have hown : s.vm.findClass "com/example/bundlewright/bundlewright/core/Name" = some m.cls := findClass_of_methodNamed Bd.named
  have hnm := (name_of_methodNamed Bd.named Bd.method).1
  have X0 : Stand p l e ({ frames := 0, cells := 0, slots := 0, locals := 0 } : Room) s m #[(.int p0)] below meth c s₁ [] 0 0 := Stand.of_body Bd
  have e0 : s₁.heap = h0 := by rw [← hh, Bd.state]; rfl
  have N0 := Fr.nil n0
  have pre0 : ∀ t, Steps p.tables e below (s₁.setTop (mkF m 0 #[iv p0] [])) t → Steps p.tables e below (s₁.setTop (entryFrame m #[(.int p0)] 1)) t := fun t k => castTop (ef_rmNS m p0) k
  have pre2 : ∀ t, Steps p.tables e below (s₁.setTop (mkF m 1 #[iv p0] [(.int p0)])) t → Steps p.tables e below (s₁.setTop (entryFrame m #[(.int p0)] 1)) t := fun t kt => pre0 t (by
   refine XS.iloadN X0.here hx rfl (hb hby d39_0) rfl ?_
   exact kt)
  by_cases hc1_1 : p0 < (0 : Int32)
  · obtain ⟨fs, hr, hrun, hended, hW, hsame⟩ := X0.leave (v := some (.int (0 : Int32))) (fun h => by rw [Bd.returns] at h; cases h)
    refine ⟨_, _, pre2 _ ?_, hrun, hended, _, _, rfl, ?_, ⟨_, rfl⟩, hW, hsame.mono (by decide) (by decide)⟩
    · refine XS.ifYes X0.here hx rfl (pc0 := 1) (pc' := 25) rfl (hb hby d39_1) rfl ((if0 _ _).trans (tlt hc1_1).1) (by decide) (by decide) ?_
      refine XS.iconst X0.here hx rfl (hb hby d39_25) ?_
      show Steps _ _ _ (s₁.setTop (mkF m 26 #[iv p0] [(.int (0 : Int32))])) _
      exact retN X0 hx (t := .boolean) Bd.returns (by simp) (hb hby d39_26) hr
    · show own_QP (some (.int (own_ns vK p0))) h0 n0 _ s₁.heap _
      rw [e0]
      exact ⟨(congrArg (fun q => some (Value.int q)) (by unfold own_ns; rw [if_pos hc1_1])), N0, rfl⟩
  · have pre4 : ∀ t, Steps p.tables e below (s₁.setTop (mkF m 8 #[iv p0] [(.int (128 : Int32)), (.int p0)])) t → Steps p.tables e below (s₁.setTop (entryFrame m #[(.int p0)] 1)) t := fun t kt => pre2 t (by
     refine XS.ifNo X0.here hx rfl (hb hby d39_1) rfl ((if0 _ _).trans (flt hc1_1).1) ?_
     refine XS.iloadN X0.here hx rfl (hb hby d39_4) rfl ?_
     refine XS.sipush X0.here hx rfl (hb hby d39_5) ?_
     exact kt)
    by_cases hc8_3 : p0 < (128 : Int32)
    · obtain ⟨T5, X5, e5, st5⟩ := getS2 X0 hx hZ hown (host := "") (Or.inl (own_g hw 214 rfl)) Via.refl e0 P_S_Name_KIND (g := (mkF m 11 #[iv p0] [])) rfl (hb hby d39_11)
      obtain ⟨cl6, Ar6, qq6, S6, N6_, H6, G6⟩ := id P_G_kd
      have hin6 : ¬ (p0 < 0 ∨ cl6.slots.size ≤ (p0).toNatClampNeg) := inb_of S6 ⟨hc1_1, hc8_3⟩
      have hat6 : cl6.slots[(p0).toNatClampNeg]? = some (.int (own_at vK p0)) := own_atv H6 G6 hin6
      have pre8 : ∀ t, Steps p.tables e below (T5.setTop (mkF m 18 #[iv p0] [(.int ((own_at vK p0) &&& (1 : Int32)))])) t → Steps p.tables e below (s₁.setTop (entryFrame m #[(.int p0)] 1)) t := fun t kt => pre4 t (by
       refine XS.icmpNo X0.here hx rfl (hb hby d39_8) rfl (tlt hc8_3).2.1 ?_
       refine st5 _ ?_
       refine XS.iloadN X5.here hx rfl (hb hby d39_14) rfl ?_
       refine X5.baloadBytes hx (j := p0) (v := (.int (own_at vK p0))) (by rw [e5]; exact Ar6.1) (State.isArrayOf_alike hZ.alike Ar6.2.1) Ar6.2.2 hin6 hat6 (g := (mkF m 15 #[iv p0] [(.int p0), (.ref kd)])) rfl rfl (hb hby d39_15) _ ?_
       refine XS.iconst X5.here hx rfl (hb hby d39_16) ?_
       refine XS.iand X5.here hx rfl (hb hby d39_17) rfl ?_
       exact kt)
      by_cases hc18_7 : ((own_at vK p0) &&& (1 : Int32)) = (0 : Int32)
      · obtain ⟨fs, hr, hrun, hended, hW, hsame⟩ := X5.leave (v := some (.int (0 : Int32))) (fun h => by rw [Bd.returns] at h; cases h)
        refine ⟨_, _, pre8 _ ?_, hrun, hended, _, _, rfl, ?_, ⟨_, rfl⟩, hW, hsame.mono (by decide) (by decide)⟩
        · refine XS.ifYes X5.here hx rfl (pc0 := 18) (pc' := 25) rfl (hb hby d39_18) rfl ((if0 _ _).trans (teq hc18_7).1) (by decide) (by decide) ?_
          refine XS.iconst X5.here hx rfl (hb hby d39_25) ?_
          show Steps _ _ _ (T5.setTop (mkF m 26 #[iv p0] [(.int (0 : Int32))])) _
          exact retN X5 hx (t := .boolean) Bd.returns (by simp) (hb hby d39_26) hr
        · show own_QP (some (.int (own_ns vK p0))) h0 n0 _ T5.heap _
          rw [e5]
          exact ⟨(congrArg (fun q => some (Value.int q)) (by unfold own_ns; rw [if_neg hc1_1, if_pos hc8_3, if_pos hc18_7])), N0, rfl⟩
      · obtain ⟨fs, hr, hrun, hended, hW, hsame⟩ := X5.leave (v := some (.int (1 : Int32))) (fun h => by rw [Bd.returns] at h; cases h)
        refine ⟨_, _, pre8 _ ?_, hrun, hended, _, _, rfl, ?_, ⟨_, rfl⟩, hW, hsame.mono (by decide) (by decide)⟩
        · refine XS.ifNo X5.here hx rfl (hb hby d39_18) rfl ((if0 _ _).trans (feq hc18_7).1) ?_
          refine XS.iconst X5.here hx rfl (hb hby d39_21) ?_
          refine XS.goto X5.here hx rfl (pc0 := 22) (pc' := 26) rfl (hb hby d39_22) (by decide) (by decide) ?_
          show Steps _ _ _ (T5.setTop (mkF m 26 #[iv p0] [(.int (1 : Int32))])) _
          exact retN X5 hx (t := .boolean) Bd.returns (by simp) (hb hby d39_26) hr
        · show own_QP (some (.int (own_ns vK p0))) h0 n0 _ T5.heap _
          rw [e5]
          exact ⟨(congrArg (fun q => some (Value.int q)) (by unfold own_ns; rw [if_neg hc1_1, if_pos hc8_3, if_neg hc18_7])), N0, rfl⟩
    · obtain ⟨fs, hr, hrun, hended, hW, hsame⟩ := X0.leave (v := some (.int (0 : Int32))) (fun h => by rw [Bd.returns] at h; cases h)
      refine ⟨_, _, pre4 _ ?_, hrun, hended, _, _, rfl, ?_, ⟨_, rfl⟩, hW, hsame.mono (by decide) (by decide)⟩
      · refine XS.icmpYes X0.here hx rfl (pc0 := 8) (pc' := 25) rfl (hb hby d39_8) rfl (flt hc8_3).2.1 (by decide) (by decide) ?_
        refine XS.iconst X0.here hx rfl (hb hby d39_25) ?_
        show Steps _ _ _ (s₁.setTop (mkF m 26 #[iv p0] [(.int (0 : Int32))])) _
        exact retN X0 hx (t := .boolean) Bd.returns (by simp) (hb hby d39_26) hr
      · show own_QP (some (.int (own_ns vK p0))) h0 n0 _ s₁.heap _
        rw [e0]
        exact ⟨(congrArg (fun q => some (Value.int q)) (by unfold own_ns; rw [if_neg hc1_1, if_neg hc8_3])), N0, rfl⟩

theorem ef_rmEL5 (m : MethodId) (x0 : Addr) (x1 : Addr) : entryFrame m #[(.ref x0), (.ref x1)] 3 = mkF m 0 #[rv x0, rv x1, .unset] [] := by first | (simp [entryFrame, mkF, argsToLocals, Value.category]; done) | rfl
set_option maxRecDepth 65536 in
set_option maxHeartbeats 40000000 in
theorem rmEL5 (l : Launch) (Z : State) (a0 : Array Value) (hw : ∀ d ∈ tables_1, d.before a0 Z = true) (ws : List Jvm.Cond) (u0 : Addr) (u1 : Addr) (kt : ClassId) (z : Int32) (vs : List Value) (ku : ClassId) (xs : List Value) (h0 : Heap) (n0 : Nat) (Z0 : n0 ≤ h0.size) (P_G_u0 : Arv Z h0 u0 kt .byte z vs (.int 0)) (P_G_u1 : Arv Z h0 u1 ku .byte (5 : Int32) xs (.int 0)) (hne : ¬ z = (5 : Int32)) :
    own_MF l own_y24 (Jvm.Cond.code own_y24 jdk_43_method_13_code 3 (some .boolean)) ws ({ frames := 0, cells := 0, slots := 0, locals := 0 } : Room) #[(.ref u0), (.ref u1)] Z h0 (own_QP (some (.int (0 : Int32))) h0 n0) := by
  refine MetFree.of_bodySF (plainFor_of_name pn_20) hisR ?_
  intro p e s m args below meth c s₁ Bd hml0 hP hK
  obtain ⟨rfl, hZ, hh⟩ := hP
  have hx := Bd.exec
  have hby := Bd.bytes
  have hml : c.maxLocals = 3 := hml0
  have hown : s.vm.findClass "java/lang/StringLatin1" = some m.cls := findClass_of_methodNamed Bd.named
  have hnm := (name_of_methodNamed Bd.named Bd.method).1
  have X0 : Stand p l e ({ frames := 0, cells := 0, slots := 0, locals := 0 } : Room) s m #[(.ref u0), (.ref u1)] below meth c s₁ [] 0 0 := Stand.of_body Bd
  have e0 : s₁.heap = h0 := by rw [← hh, Bd.state]; rfl
  have N0 := Fr.nil n0
  have pre0 : ∀ t, Steps p.tables e below (s₁.setTop (mkF m 0 #[rv u0, rv u1, .unset] [])) t → Steps p.tables e below (s₁.setTop (entryFrame m #[(.ref u0), (.ref u1)] 3)) t := fun t k => castTop (ef_rmEL5 m u0 u1) k
  obtain ⟨cl1, Ar1, qq1, S1, N1_, H1, G1⟩ := id P_G_u0
  obtain ⟨cl2, Ar2, qq2, S2, N2_, H2, G2⟩ := id P_G_u1
  obtain ⟨fs, hr, hrun, hended, hW, hsame⟩ := X0.leave (v := some (.int (0 : Int32))) (fun h => by rw [Bd.returns] at h; cases h)
  refine ⟨_, _, pre0 _ ?_, hrun, hended, _, _, rfl, ?_, ⟨_, rfl⟩, hW, hsame.mono (by decide) (by decide)⟩
  · refine XS.aloadN X0.here hx rfl (hb hby d20_0) rfl rfl ?_
    refine X0.arraylength hx (by rw [e0]; exact Ar1.1) (State.isArrayOf_alike hZ.alike Ar1.2.1) (g := (mkF m 1 #[rv u0, rv u1, .unset] [(.ref u0)])) rfl rfl (hb hby d20_1) _ ?_
    rw [len_of S1 N1_]
    refine XS.aloadN X0.here hx rfl (hb hby d20_2) rfl rfl ?_
    refine X0.arraylength hx (by rw [e0]; exact Ar2.1) (State.isArrayOf_alike hZ.alike Ar2.2.1) (g := (mkF m 3 #[rv u0, rv u1, .unset] [(.ref u1), (.int z)])) rfl rfl (hb hby d20_3) _ ?_
    rw [len_of S2 N2_]
    refine XS.icmpYes X0.here hx rfl (pc0 := 4) (pc' := 34) rfl (hb hby d20_4) rfl (feq hne).2 (by decide) (by decide) ?_
    refine XS.iconst X0.here hx rfl (hb hby d20_34) ?_
    show Steps _ _ _ (s₁.setTop (mkF m 35 #[rv u0, rv u1, .unset] [(.int (0 : Int32))])) _
    exact retN X0 hx (t := .boolean) Bd.returns (by simp) (hb hby d20_35) hr
  · show own_QP (some (.int (0 : Int32))) h0 n0 _ s₁.heap _
    rw [e0]
    exact ⟨rfl, N0, rfl⟩

theorem ef_rmEQ5 (m : MethodId) (x0 : Addr) (x1 : Addr) : entryFrame m #[(.ref x0), (.ref x1)] 3 = mkF m 0 #[rv x0, rv x1, .unset] [] := by first | (simp [entryFrame, mkF, argsToLocals, Value.category]; done) | rfl
set_option maxRecDepth 65536 in
set_option maxHeartbeats 40000000 in
theorem rmEQ5 (l : Launch) (Z : State) (a0 : Array Value) (hw : ∀ d ∈ tables_1, d.before a0 Z = true) (ws : List Jvm.Cond) (u0 : Addr) (u1 : Addr) (tv : Addr) (kt : ClassId) (z : Int32) (vs : List Value) (u : Addr) (ku : ClassId) (xs : List Value) (zC : Int32) (h0 : Heap) (n0 : Nat) (Z0 : n0 ≤ h0.size) (P_E_u0 : Exa Z h0 u0 "java/lang/String") (P_F_u0_String_value : Fld Z h0 u0 "java/lang/String" "value" "[B" (.ref tv)) (P_F_u0_String_coder : Fld Z h0 u0 "java/lang/String" "coder" "B" (.int (0 : Int32))) (P_G_tv : Arv Z h0 tv kt .byte z vs (.int 0)) (P_E_u1 : Exa Z h0 u1 "java/lang/String") (P_F_u1_String_value : Fld Z h0 u1 "java/lang/String" "value" "[B" (.ref u)) (P_F_u1_String_coder : Fld Z h0 u1 "java/lang/String" "coder" "B" (.int (0 : Int32))) (P_G_u : Arv Z h0 u ku .byte (5 : Int32) xs (.int 0)) (P_S_String_COMPACT_STRINGS : Sta Z h0 "java/lang/String" "COMPACT_STRINGS" "Z" (.int zC)) (hz : ¬ (zC = (0 : Int32))) (hne : ¬ z = (5 : Int32)) :
    own_MF l own_y25 (Jvm.Cond.code own_y25 jdk_42_method_66_code 3 (some .boolean)) ws ({ frames := 1, cells := 0, slots := 0, locals := 14 } : Room) #[(.ref u0), (.ref u1)] Z h0 (own_QP (some (.int (0 : Int32))) h0 n0) := by
  refine MetFree.of_bodySF (plainFor_of_name pn_19) hisR ?_
  intro p e s m args below meth c s₁ Bd hml0 hP hK
  obtain ⟨rfl, hZ, hh⟩ := hP
  have hx := Bd.exec
  have hby := Bd.bytes
  have hml : c.maxLocals = 3 := hml0
  have hown : s.vm.findClass "java/lang/String" = some m.cls := findClass_of_methodNamed Bd.named
  have hnm := (name_of_methodNamed Bd.named Bd.method).1
  have X0 : Stand p l e ({ frames := 1, cells := 0, slots := 0, locals := 14 } : Room) s m #[(.ref u0), (.ref u1)] below meth c s₁ [] 0 0 := Stand.of_body Bd
  have e0 : s₁.heap = h0 := by rw [← hh, Bd.state]; rfl
  have N0 := Fr.nil n0
  have pre0 : ∀ t, Steps p.tables e below (s₁.setTop (mkF m 0 #[rv u0, rv u1, .unset] [])) t → Steps p.tables e below (s₁.setTop (entryFrame m #[(.ref u0), (.ref u1)] 3)) t := fun t k => castTop (ef_rmEQ5 m u0 u1) k
  obtain ⟨T1, X1, e1, st1⟩ := instY X0 hx hZ hown (own_g hw 126 rfl) e0 (Ins.self P_E_u1) (g := (mkF m 8 #[rv u0, rv u1, .unset] [(.ref u1)])) rfl rfl (hb hby d19_8)
  obtain ⟨T2, X2, e2, st2⟩ := castY X1 hx hZ hown (own_g hw 126 rfl) e1 (Ins.self P_E_u1) (g := (mkF m 15 #[rv u0, rv u1, .unset] [(.ref u1)])) rfl rfl (hb hby d19_15)
  obtain ⟨T3, X3, e3, st3⟩ := getS2 X2 hx hZ hown (host := "") (Or.inl (own_g hw 49 rfl)) Via.refl e2 P_S_String_COMPACT_STRINGS (g := (mkF m 19 #[rv u0, rv u1, rv u1] [])) rfl (hb hby d19_19)
  obtain ⟨T4, X4, e4, st4⟩ := getF X3 hx hZ hown (host := "") (Or.inl (own_g hw 27 rfl)) Via.refl e3 P_F_u0_String_coder (g := (mkF m 26 #[rv u0, rv u1, rv u1] [(.ref u0)])) rfl rfl (hb hby d19_26)
  obtain ⟨T5, X5, e5, st5⟩ := getF X4 hx hZ hown (host := "") (Or.inl (own_g hw 27 rfl)) Via.refl e4 P_F_u1_String_coder (g := (mkF m 30 #[rv u0, rv u1, rv u1] [(.ref u1), (.int (0 : Int32))])) rfl rfl (hb hby d19_30)
  obtain ⟨T6, X6, e6, st6⟩ := getF X5 hx hZ hown (host := "") (Or.inl (own_g hw 26 rfl)) Via.refl e5 P_F_u0_String_value (g := (mkF m 37 #[rv u0, rv u1, rv u1] [(.ref u0)])) rfl rfl (hb hby d19_37)
  obtain ⟨T7, X7, e7, st7⟩ := getF X6 hx hZ hown (host := "") (Or.inl (own_g hw 26 rfl)) Via.refl e6 P_F_u1_String_value (g := (mkF m 41 #[rv u0, rv u1, rv u1] [(.ref u1), (.ref tv)])) rfl rfl (hb hby d19_41)
  obtain ⟨_, _, ⟨T8, L8, k8, n8⟩, -, X8, ⟨Lc8, hQ8, l8, y8, z8⟩, st8⟩ := Jvm.LawKit.callS X7 hx (y := own_y24) hown (mvT hZ (own_g hw 127 rfl)) (mvT hZ (own_g hw 128 rfl)) (mvT hZ (own_g hw 101 rfl)) (mvT hZ (own_g hw 129 rfl)) (by decide) (backOf (W := 0) (rmEL5 l Z a0 hw [] tv u kt z vs ku xs h0 n0 Z0 P_G_tv P_G_u hne) hZ (own_g hw 129 rfl) (own_g hw 101 rfl) (by decide) (by decide)) (g := (mkF m 44 #[rv u0, rv u1, rv u1] [(.ref u), (.ref tv)])) rfl (by rw [hml]; rfl) (argsL := [(.ref tv), (.ref u)]) (rest := []) (lenOf pd___B_B_Z rfl) rfl (by show 2 * 0 + _ ≤ _; exact Nat.le_of_eq rfl) (hb hby d19_44) (fun _ _ => ⟨rfl, e7, (by decide : 0 + 0 ≤ _), (by decide : 0 + 0 ≤ _)⟩)
  dsimp only [Pt.U, Pt.locs, Pt.cells, Pt.slots] at X8 l8 y8 z8 st8 hQ8
  subst l8 y8 z8
  obtain ⟨rfl, N8q, e8⟩ := hQ8
  have N8 := Fr.app N0 N8q
  obtain ⟨fs, hr, hrun, hended, hW, hsame⟩ := X8.leave (v := some (.int (0 : Int32))) (fun h => by rw [Bd.returns] at h; cases h)
  refine ⟨_, _, pre0 _ ?_, hrun, hended, _, _, rfl, ?_, ⟨_, rfl⟩, hW, hsame.mono (by decide) (by decide)⟩
  · refine XS.aloadN X0.here hx rfl (hb hby d19_0) rfl rfl ?_
    refine XS.aloadN X0.here hx rfl (hb hby d19_1) rfl rfl ?_
    refine Jvm.RoadKit.acmp (g := (mkF m 2 #[rv u0, rv u1, .unset] [(.ref u1), (.ref u0)])) X0 hx rfl rfl rfl (pc0 := 2) (pc' := 7) (same := false) rfl (hb hby d19_2) rfl (decide_eq_false fun q => (own_neS P_F_u0_String_value P_F_u1_String_value P_G_tv P_G_u hne) (Value.ref.inj q)) (by decide) (by decide) ?_
    refine XS.aloadN X0.here hx rfl (hb hby d19_7) rfl rfl ?_
    refine st1 _ ?_
    refine XS.ifNo X1.here hx rfl (hb hby d19_11) rfl ((if0 _ _).trans (feq (by decide : ¬ ((1 : Int32) = (0 : Int32)))).1) ?_
    refine XS.aloadN X1.here hx rfl (hb hby d19_14) rfl rfl ?_
    refine st2 _ ?_
    refine XS.astoreN X2.here hx rfl (hb hby d19_18) rfl rfl (l' := #[rv u0, rv u1, rv u1]) rfl ?_
    refine st3 _ ?_
    refine XS.ifNo X3.here hx rfl (hb hby d19_22) rfl ((if0 _ _).trans (feq hz).1) ?_
    refine XS.aloadN X3.here hx rfl (hb hby d19_25) rfl rfl ?_
    refine st4 _ ?_
    refine XS.aloadN X4.here hx rfl (hb hby d19_29) rfl rfl ?_
    refine st5 _ ?_
    refine XS.icmpNo X5.here hx rfl (hb hby d19_33) rfl (teq (by decide : (0 : Int32) = (0 : Int32))).2 ?_
    refine XS.aloadN X5.here hx rfl (hb hby d19_36) rfl rfl ?_
    refine st6 _ ?_
    refine XS.aloadN X6.here hx rfl (hb hby d19_40) rfl rfl ?_
    refine st7 _ ?_
    show Steps _ _ _ (T7.setTop (mkF m 44 #[rv u0, rv u1, rv u1] [(.ref u), (.ref tv)])) _
    refine st8 _ ?_
    refine XS.ifYes X8.here hx rfl (pc0 := 47) (pc' := 54) rfl (hb hby d19_47) rfl ((if0 _ _).trans (teq (by decide : (0 : Int32) = (0 : Int32))).1) (by decide) (by decide) ?_
    refine XS.iconst X8.here hx rfl (hb hby d19_54) ?_
    show Steps _ _ _ (T8.setTop (mkF m 55 #[rv u0, rv u1, rv u1] [(.int (0 : Int32))])) _
    exact retN X8 hx (t := .boolean) Bd.returns (by simp) (hb hby d19_55) hr
  · show own_QP (some (.int (0 : Int32))) h0 n0 _ T8.heap _
    rw [e8]
    exact ⟨rfl, N8, rfl⟩

theorem ef_rmEL3 (m : MethodId) (x0 : Addr) (x1 : Addr) : entryFrame m #[(.ref x0), (.ref x1)] 3 = mkF m 0 #[rv x0, rv x1, .unset] [] := by first | (simp [entryFrame, mkF, argsToLocals, Value.category]; done) | rfl
set_option maxRecDepth 65536 in
set_option maxHeartbeats 40000000 in
theorem rmEL3 (l : Launch) (Z : State) (a0 : Array Value) (hw : ∀ d ∈ tables_1, d.before a0 Z = true) (ws : List Jvm.Cond) (u0 : Addr) (u1 : Addr) (kt : ClassId) (z : Int32) (vs : List Value) (ku : ClassId) (xs : List Value) (h0 : Heap) (n0 : Nat) (Z0 : n0 ≤ h0.size) (P_G_u0 : Arv Z h0 u0 kt .byte z vs (.int 0)) (P_G_u1 : Arv Z h0 u1 ku .byte (3 : Int32) xs (.int 0)) :
    own_MF l own_y24 (Jvm.Cond.code own_y24 jdk_43_method_13_code 3 (some .boolean)) ws ({ frames := 0, cells := 0, slots := 0, locals := 0 } : Room) #[(.ref u0), (.ref u1)] Z h0 (own_QP (some (.int (own_e3 z vs xs))) h0 n0) := by
  refine MetFree.of_bodySF (plainFor_of_name pn_20) hisR ?_
  intro p e s m args below meth c s₁ Bd hml0 hP hK
  obtain ⟨rfl, hZ, hh⟩ := hP
  have hx := Bd.exec
  have hby := Bd.bytes
  have hml : c.maxLocals = 3 := hml0
  have hown : s.vm.findClass "java/lang/StringLatin1" = some m.cls := findClass_of_methodNamed Bd.named
  have hnm := (name_of_methodNamed Bd.named Bd.method).1
  have X0 : Stand p l e ({ frames := 0, cells := 0, slots := 0, locals := 0 } : Room) s m #[(.ref u0), (.ref u1)] below meth c s₁ [] 0 0 := Stand.of_body Bd
  have e0 : s₁.heap = h0 := by rw [← hh, Bd.state]; rfl
  have N0 := Fr.nil n0
  have pre0 : ∀ t, Steps p.tables e below (s₁.setTop (mkF m 0 #[rv u0, rv u1, .unset] [])) t → Steps p.tables e below (s₁.setTop (entryFrame m #[(.ref u0), (.ref u1)] 3)) t := fun t k => castTop (ef_rmEL3 m u0 u1) k
  obtain ⟨cl1, Ar1, qq1, S1, N1_, H1, G1⟩ := id P_G_u0
  obtain ⟨cl2, Ar2, qq2, S2, N2_, H2, G2⟩ := id P_G_u1
  have pre4 : ∀ t, Steps p.tables e below (s₁.setTop (mkF m 4 #[rv u0, rv u1, .unset] [(.int (3 : Int32)), (.int z)])) t → Steps p.tables e below (s₁.setTop (entryFrame m #[(.ref u0), (.ref u1)] 3)) t := fun t kt => pre0 t (by
   refine XS.aloadN X0.here hx rfl (hb hby d20_0) rfl rfl ?_
   refine X0.arraylength hx (by rw [e0]; exact Ar1.1) (State.isArrayOf_alike hZ.alike Ar1.2.1) (g := (mkF m 1 #[rv u0, rv u1, .unset] [(.ref u0)])) rfl rfl (hb hby d20_1) _ ?_
   rw [len_of S1 N1_]
   refine XS.aloadN X0.here hx rfl (hb hby d20_2) rfl rfl ?_
   refine X0.arraylength hx (by rw [e0]; exact Ar2.1) (State.isArrayOf_alike hZ.alike Ar2.2.1) (g := (mkF m 3 #[rv u0, rv u1, .unset] [(.ref u1), (.int z)])) rfl rfl (hb hby d20_3) _ ?_
   rw [len_of S2 N2_]
   exact kt)
  by_cases hc4_3 : z = (3 : Int32)
  · obtain ⟨cl5, Ar5, qq5, S5, N5_, H5, G5⟩ := id P_G_u0
    obtain ⟨cl6, Ar6, qq6, S6, N6_, H6, G6⟩ := id P_G_u0
    have hin6 : ¬ ((0 : Int32) < 0 ∨ cl6.slots.size ≤ ((0 : Int32)).toNatClampNeg) := inb_of S6 ⟨by decide, by rw [hc4_3]; decide⟩
    have hat6 : cl6.slots[((0 : Int32)).toNatClampNeg]? = some (.int (own_at vs (0 : Int32))) := own_atv H6 G6 hin6
    obtain ⟨cl7, Ar7, qq7, S7, N7_, H7, G7⟩ := id P_G_u1
    have hin7 : ¬ ((0 : Int32) < 0 ∨ cl7.slots.size ≤ ((0 : Int32)).toNatClampNeg) := inb_of S7 ⟨by decide, by decide⟩
    have hat7 : cl7.slots[((0 : Int32)).toNatClampNeg]? = some (.int (own_at xs (0 : Int32))) := own_atv H7 G7 hin7
    have pre9 : ∀ t, Steps p.tables e below (s₁.setTop (mkF m 21 #[rv u0, rv u1, iv (0 : Int32)] [(.int (own_at xs (0 : Int32))), (.int (own_at vs (0 : Int32)))])) t → Steps p.tables e below (s₁.setTop (entryFrame m #[(.ref u0), (.ref u1)] 3)) t := fun t kt => pre4 t (by
     refine XS.icmpNo X0.here hx rfl (hb hby d20_4) rfl (teq hc4_3).2 ?_
     refine XS.iconst X0.here hx rfl (hb hby d20_7) ?_
     refine XS.istoreN X0.here hx rfl (hb hby d20_8) rfl (l' := #[rv u0, rv u1, iv (0 : Int32)]) rfl ?_
     refine XS.iloadN X0.here hx rfl (hb hby d20_9) rfl ?_
     refine XS.aloadN X0.here hx rfl (hb hby d20_10) rfl rfl ?_
     refine X0.arraylength hx (by rw [e0]; exact Ar5.1) (State.isArrayOf_alike hZ.alike Ar5.2.1) (g := (mkF m 11 #[rv u0, rv u1, iv (0 : Int32)] [(.ref u0), (.int (0 : Int32))])) rfl rfl (hb hby d20_11) _ ?_
     rw [len_of S5 N5_]
     refine XS.icmpNo X0.here hx rfl (hb hby d20_12) rfl (tlt (by rw [hc4_3]; decide)).2.1 ?_
     refine XS.aloadN X0.here hx rfl (hb hby d20_15) rfl rfl ?_
     refine XS.iloadN X0.here hx rfl (hb hby d20_16) rfl ?_
     refine X0.baloadBytes hx (j := (0 : Int32)) (v := (.int (own_at vs (0 : Int32)))) (by rw [e0]; exact Ar6.1) (State.isArrayOf_alike hZ.alike Ar6.2.1) Ar6.2.2 hin6 hat6 (g := (mkF m 17 #[rv u0, rv u1, iv (0 : Int32)] [(.int (0 : Int32)), (.ref u0)])) rfl rfl (hb hby d20_17) _ ?_
     refine XS.aloadN X0.here hx rfl (hb hby d20_18) rfl rfl ?_
     refine XS.iloadN X0.here hx rfl (hb hby d20_19) rfl ?_
     refine X0.baloadBytes hx (j := (0 : Int32)) (v := (.int (own_at xs (0 : Int32)))) (by rw [e0]; exact Ar7.1) (State.isArrayOf_alike hZ.alike Ar7.2.1) Ar7.2.2 hin7 hat7 (g := (mkF m 20 #[rv u0, rv u1, iv (0 : Int32)] [(.int (0 : Int32)), (.ref u1), (.int (own_at vs (0 : Int32)))])) rfl rfl (hb hby d20_20) _ ?_
     exact kt)
    by_cases hc21_8 : (own_at vs (0 : Int32)) = (own_at xs (0 : Int32))
    · obtain ⟨cl10, Ar10, qq10, S10, N10_, H10, G10⟩ := id P_G_u0
      obtain ⟨cl11, Ar11, qq11, S11, N11_, H11, G11⟩ := id P_G_u0
      have hin11 : ¬ ((1 : Int32) < 0 ∨ cl11.slots.size ≤ ((1 : Int32)).toNatClampNeg) := inb_of S11 ⟨by decide, by rw [hc4_3]; decide⟩
      have hat11 : cl11.slots[((1 : Int32)).toNatClampNeg]? = some (.int (own_at vs (1 : Int32))) := own_atv H11 G11 hin11
      obtain ⟨cl12, Ar12, qq12, S12, N12_, H12, G12⟩ := id P_G_u1
      have hin12 : ¬ ((1 : Int32) < 0 ∨ cl12.slots.size ≤ ((1 : Int32)).toNatClampNeg) := inb_of S12 ⟨by decide, by decide⟩
      have hat12 : cl12.slots[((1 : Int32)).toNatClampNeg]? = some (.int (own_at xs (1 : Int32))) := own_atv H12 G12 hin12
      have pre14 : ∀ t, Steps p.tables e below (s₁.setTop (mkF m 21 #[rv u0, rv u1, iv (1 : Int32)] [(.int (own_at xs (1 : Int32))), (.int (own_at vs (1 : Int32)))])) t → Steps p.tables e below (s₁.setTop (entryFrame m #[(.ref u0), (.ref u1)] 3)) t := fun t kt => pre9 t (by
       refine XS.icmpYes X0.here hx rfl (pc0 := 21) (pc' := 26) rfl (hb hby d20_21) rfl (teq hc21_8).1 (by decide) (by decide) ?_
       refine XS.iinc X0.here hx rfl (hb hby d20_26) rfl (l' := #[rv u0, rv u1, iv (1 : Int32)]) rfl ?_
       refine XS.goto X0.here hx rfl (pc0 := 29) (pc' := 9) rfl (hb hby d20_29) (by decide) (by decide) ?_
       refine XS.iloadN X0.here hx rfl (hb hby d20_9) rfl ?_
       refine XS.aloadN X0.here hx rfl (hb hby d20_10) rfl rfl ?_
       refine X0.arraylength hx (by rw [e0]; exact Ar10.1) (State.isArrayOf_alike hZ.alike Ar10.2.1) (g := (mkF m 11 #[rv u0, rv u1, iv (1 : Int32)] [(.ref u0), (.int (1 : Int32))])) rfl rfl (hb hby d20_11) _ ?_
       rw [len_of S10 N10_]
       show Steps _ _ _ (s₁.setTop (mkF m 12 #[rv u0, rv u1, iv (1 : Int32)] [(.int z), (.int (1 : Int32))])) _
       refine XS.icmpNo X0.here hx rfl (hb hby d20_12) rfl (tlt (by rw [hc4_3]; decide)).2.1 ?_
       refine XS.aloadN X0.here hx rfl (hb hby d20_15) rfl rfl ?_
       refine XS.iloadN X0.here hx rfl (hb hby d20_16) rfl ?_
       refine X0.baloadBytes hx (j := (1 : Int32)) (v := (.int (own_at vs (1 : Int32)))) (by rw [e0]; exact Ar11.1) (State.isArrayOf_alike hZ.alike Ar11.2.1) Ar11.2.2 hin11 hat11 (g := (mkF m 17 #[rv u0, rv u1, iv (1 : Int32)] [(.int (1 : Int32)), (.ref u0)])) rfl rfl (hb hby d20_17) _ ?_
       refine XS.aloadN X0.here hx rfl (hb hby d20_18) rfl rfl ?_
       refine XS.iloadN X0.here hx rfl (hb hby d20_19) rfl ?_
       refine X0.baloadBytes hx (j := (1 : Int32)) (v := (.int (own_at xs (1 : Int32)))) (by rw [e0]; exact Ar12.1) (State.isArrayOf_alike hZ.alike Ar12.2.1) Ar12.2.2 hin12 hat12 (g := (mkF m 20 #[rv u0, rv u1, iv (1 : Int32)] [(.int (1 : Int32)), (.ref u1), (.int (own_at vs (1 : Int32)))])) rfl rfl (hb hby d20_20) _ ?_
       exact kt)
      by_cases hc21_13 : (own_at vs (1 : Int32)) = (own_at xs (1 : Int32))
      · obtain ⟨cl15, Ar15, qq15, S15, N15_, H15, G15⟩ := id P_G_u0
        obtain ⟨cl16, Ar16, qq16, S16, N16_, H16, G16⟩ := id P_G_u0
        have hin16 : ¬ ((2 : Int32) < 0 ∨ cl16.slots.size ≤ ((2 : Int32)).toNatClampNeg) := inb_of S16 ⟨by decide, by rw [hc4_3]; decide⟩
        have hat16 : cl16.slots[((2 : Int32)).toNatClampNeg]? = some (.int (own_at vs (2 : Int32))) := own_atv H16 G16 hin16
        obtain ⟨cl17, Ar17, qq17, S17, N17_, H17, G17⟩ := id P_G_u1
        have hin17 : ¬ ((2 : Int32) < 0 ∨ cl17.slots.size ≤ ((2 : Int32)).toNatClampNeg) := inb_of S17 ⟨by decide, by decide⟩
        have hat17 : cl17.slots[((2 : Int32)).toNatClampNeg]? = some (.int (own_at xs (2 : Int32))) := own_atv H17 G17 hin17
        have pre19 : ∀ t, Steps p.tables e below (s₁.setTop (mkF m 21 #[rv u0, rv u1, iv (2 : Int32)] [(.int (own_at xs (2 : Int32))), (.int (own_at vs (2 : Int32)))])) t → Steps p.tables e below (s₁.setTop (entryFrame m #[(.ref u0), (.ref u1)] 3)) t := fun t kt => pre14 t (by
         refine XS.icmpYes X0.here hx rfl (pc0 := 21) (pc' := 26) rfl (hb hby d20_21) rfl (teq hc21_13).1 (by decide) (by decide) ?_
         refine XS.iinc X0.here hx rfl (hb hby d20_26) rfl (l' := #[rv u0, rv u1, iv (2 : Int32)]) rfl ?_
         refine XS.goto X0.here hx rfl (pc0 := 29) (pc' := 9) rfl (hb hby d20_29) (by decide) (by decide) ?_
         refine XS.iloadN X0.here hx rfl (hb hby d20_9) rfl ?_
         refine XS.aloadN X0.here hx rfl (hb hby d20_10) rfl rfl ?_
         refine X0.arraylength hx (by rw [e0]; exact Ar15.1) (State.isArrayOf_alike hZ.alike Ar15.2.1) (g := (mkF m 11 #[rv u0, rv u1, iv (2 : Int32)] [(.ref u0), (.int (2 : Int32))])) rfl rfl (hb hby d20_11) _ ?_
         rw [len_of S15 N15_]
         refine XS.icmpNo X0.here hx rfl (hb hby d20_12) rfl (tlt (by rw [hc4_3]; decide)).2.1 ?_
         refine XS.aloadN X0.here hx rfl (hb hby d20_15) rfl rfl ?_
         refine XS.iloadN X0.here hx rfl (hb hby d20_16) rfl ?_
         refine X0.baloadBytes hx (j := (2 : Int32)) (v := (.int (own_at vs (2 : Int32)))) (by rw [e0]; exact Ar16.1) (State.isArrayOf_alike hZ.alike Ar16.2.1) Ar16.2.2 hin16 hat16 (g := (mkF m 17 #[rv u0, rv u1, iv (2 : Int32)] [(.int (2 : Int32)), (.ref u0)])) rfl rfl (hb hby d20_17) _ ?_
         refine XS.aloadN X0.here hx rfl (hb hby d20_18) rfl rfl ?_
         refine XS.iloadN X0.here hx rfl (hb hby d20_19) rfl ?_
         refine X0.baloadBytes hx (j := (2 : Int32)) (v := (.int (own_at xs (2 : Int32)))) (by rw [e0]; exact Ar17.1) (State.isArrayOf_alike hZ.alike Ar17.2.1) Ar17.2.2 hin17 hat17 (g := (mkF m 20 #[rv u0, rv u1, iv (2 : Int32)] [(.int (2 : Int32)), (.ref u1), (.int (own_at vs (2 : Int32)))])) rfl rfl (hb hby d20_20) _ ?_
         exact kt)
        by_cases hc21_18 : (own_at vs (2 : Int32)) = (own_at xs (2 : Int32))
        · obtain ⟨cl20, Ar20, qq20, S20, N20_, H20, G20⟩ := id P_G_u0
          obtain ⟨fs, hr, hrun, hended, hW, hsame⟩ := X0.leave (v := some (.int (1 : Int32))) (fun h => by rw [Bd.returns] at h; cases h)
          refine ⟨_, _, pre19 _ ?_, hrun, hended, _, _, rfl, ?_, ⟨_, rfl⟩, hW, hsame.mono (by decide) (by decide)⟩
          · refine XS.icmpYes X0.here hx rfl (pc0 := 21) (pc' := 26) rfl (hb hby d20_21) rfl (teq hc21_18).1 (by decide) (by decide) ?_
            refine XS.iinc X0.here hx rfl (hb hby d20_26) rfl (l' := #[rv u0, rv u1, iv (3 : Int32)]) rfl ?_
            refine XS.goto X0.here hx rfl (pc0 := 29) (pc' := 9) rfl (hb hby d20_29) (by decide) (by decide) ?_
            refine XS.iloadN X0.here hx rfl (hb hby d20_9) rfl ?_
            show Steps _ _ _ (s₁.setTop (mkF m 10 #[rv u0, rv u1, iv (3 : Int32)] [(.int (3 : Int32))])) _
            refine XS.aloadN X0.here hx rfl (hb hby d20_10) rfl rfl ?_
            refine X0.arraylength hx (by rw [e0]; exact Ar20.1) (State.isArrayOf_alike hZ.alike Ar20.2.1) (g := (mkF m 11 #[rv u0, rv u1, iv (3 : Int32)] [(.ref u0), (.int (3 : Int32))])) rfl rfl (hb hby d20_11) _ ?_
            rw [len_of S20 N20_]
            refine XS.icmpYes X0.here hx rfl (pc0 := 12) (pc' := 32) rfl (hb hby d20_12) rfl (flt (by rw [hc4_3]; decide)).2.1 (by decide) (by decide) ?_
            refine XS.iconst X0.here hx rfl (hb hby d20_32) ?_
            show Steps _ _ _ (s₁.setTop (mkF m 33 #[rv u0, rv u1, iv (3 : Int32)] [(.int (1 : Int32))])) _
            exact retN X0 hx (t := .boolean) Bd.returns (by simp) (hb hby d20_33) hr
          · show own_QP (some (.int (own_e3 z vs xs))) h0 n0 _ s₁.heap _
            rw [e0]
            exact ⟨(congrArg (fun q => some (Value.int q)) (by unfold own_e3; rw [if_pos hc4_3, if_pos hc21_8, if_pos hc21_13, if_pos hc21_18])), N0, rfl⟩
        · obtain ⟨fs, hr, hrun, hended, hW, hsame⟩ := X0.leave (v := some (.int (0 : Int32))) (fun h => by rw [Bd.returns] at h; cases h)
          refine ⟨_, _, pre19 _ ?_, hrun, hended, _, _, rfl, ?_, ⟨_, rfl⟩, hW, hsame.mono (by decide) (by decide)⟩
          · refine XS.icmpNo X0.here hx rfl (hb hby d20_21) rfl (feq hc21_18).1 ?_
            refine XS.iconst X0.here hx rfl (hb hby d20_24) ?_
            show Steps _ _ _ (s₁.setTop (mkF m 25 #[rv u0, rv u1, iv (2 : Int32)] [(.int (0 : Int32))])) _
            exact retN X0 hx (t := .boolean) Bd.returns (by simp) (hb hby d20_25) hr
          · show own_QP (some (.int (own_e3 z vs xs))) h0 n0 _ s₁.heap _
            rw [e0]
            exact ⟨(congrArg (fun q => some (Value.int q)) (by unfold own_e3; rw [if_pos hc4_3, if_pos hc21_8, if_pos hc21_13, if_neg hc21_18])), N0, rfl⟩
      · obtain ⟨fs, hr, hrun, hended, hW, hsame⟩ := X0.leave (v := some (.int (0 : Int32))) (fun h => by rw [Bd.returns] at h; cases h)
        refine ⟨_, _, pre14 _ ?_, hrun, hended, _, _, rfl, ?_, ⟨_, rfl⟩, hW, hsame.mono (by decide) (by decide)⟩
        · refine XS.icmpNo X0.here hx rfl (hb hby d20_21) rfl (feq hc21_13).1 ?_
          refine XS.iconst X0.here hx rfl (hb hby d20_24) ?_
          show Steps _ _ _ (s₁.setTop (mkF m 25 #[rv u0, rv u1, iv (1 : Int32)] [(.int (0 : Int32))])) _
          exact retN X0 hx (t := .boolean) Bd.returns (by simp) (hb hby d20_25) hr
        · show own_QP (some (.int (own_e3 z vs xs))) h0 n0 _ s₁.heap _
          rw [e0]
          exact ⟨(congrArg (fun q => some (Value.int q)) (by unfold own_e3; rw [if_pos hc4_3, if_pos hc21_8, if_neg hc21_13])), N0, rfl⟩
    · obtain ⟨fs, hr, hrun, hended, hW, hsame⟩ := X0.leave (v := some (.int (0 : Int32))) (fun h => by rw [Bd.returns] at h; cases h)
      refine ⟨_, _, pre9 _ ?_, hrun, hended, _, _, rfl, ?_, ⟨_, rfl⟩, hW, hsame.mono (by decide) (by decide)⟩
      · refine XS.icmpNo X0.here hx rfl (hb hby d20_21) rfl (feq hc21_8).1 ?_
        refine XS.iconst X0.here hx rfl (hb hby d20_24) ?_
        show Steps _ _ _ (s₁.setTop (mkF m 25 #[rv u0, rv u1, iv (0 : Int32)] [(.int (0 : Int32))])) _
        exact retN X0 hx (t := .boolean) Bd.returns (by simp) (hb hby d20_25) hr
      · show own_QP (some (.int (own_e3 z vs xs))) h0 n0 _ s₁.heap _
        rw [e0]
        exact ⟨(congrArg (fun q => some (Value.int q)) (by unfold own_e3; rw [if_pos hc4_3, if_neg hc21_8])), N0, rfl⟩
  · obtain ⟨fs, hr, hrun, hended, hW, hsame⟩ := X0.leave (v := some (.int (0 : Int32))) (fun h => by rw [Bd.returns] at h; cases h)
    refine ⟨_, _, pre4 _ ?_, hrun, hended, _, _, rfl, ?_, ⟨_, rfl⟩, hW, hsame.mono (by decide) (by decide)⟩
    · refine XS.icmpYes X0.here hx rfl (pc0 := 4) (pc' := 34) rfl (hb hby d20_4) rfl (feq hc4_3).2 (by decide) (by decide) ?_
      refine XS.iconst X0.here hx rfl (hb hby d20_34) ?_
      show Steps _ _ _ (s₁.setTop (mkF m 35 #[rv u0, rv u1, .unset] [(.int (0 : Int32))])) _
      exact retN X0 hx (t := .boolean) Bd.returns (by simp) (hb hby d20_35) hr
    · show own_QP (some (.int (own_e3 z vs xs))) h0 n0 _ s₁.heap _
      rw [e0]
      exact ⟨(congrArg (fun q => some (Value.int q)) (by unfold own_e3; rw [if_neg hc4_3])), N0, rfl⟩

theorem ef_rmEQ3 (m : MethodId) (x0 : Addr) (x1 : Addr) : entryFrame m #[(.ref x0), (.ref x1)] 3 = mkF m 0 #[rv x0, rv x1, .unset] [] := by first | (simp [entryFrame, mkF, argsToLocals, Value.category]; done) | rfl
set_option maxRecDepth 65536 in
set_option maxHeartbeats 40000000 in
theorem rmEQ3 (l : Launch) (Z : State) (a0 : Array Value) (hw : ∀ d ∈ tables_1, d.before a0 Z = true) (ws : List Jvm.Cond) (u0 : Addr) (u1 : Addr) (tv : Addr) (kt : ClassId) (z : Int32) (vs : List Value) (u : Addr) (ku : ClassId) (xs : List Value) (zC : Int32) (h0 : Heap) (n0 : Nat) (Z0 : n0 ≤ h0.size) (P_E_u0 : Exa Z h0 u0 "java/lang/String") (P_F_u0_String_value : Fld Z h0 u0 "java/lang/String" "value" "[B" (.ref tv)) (P_F_u0_String_coder : Fld Z h0 u0 "java/lang/String" "coder" "B" (.int (0 : Int32))) (P_G_tv : Arv Z h0 tv kt .byte z vs (.int 0)) (P_E_u1 : Exa Z h0 u1 "java/lang/String") (P_F_u1_String_value : Fld Z h0 u1 "java/lang/String" "value" "[B" (.ref u)) (P_F_u1_String_coder : Fld Z h0 u1 "java/lang/String" "coder" "B" (.int (0 : Int32))) (P_G_u : Arv Z h0 u ku .byte (3 : Int32) xs (.int 0)) (P_S_String_COMPACT_STRINGS : Sta Z h0 "java/lang/String" "COMPACT_STRINGS" "Z" (.int zC)) (hz : ¬ (zC = (0 : Int32))) :
    own_MF l own_y25 (Jvm.Cond.code own_y25 jdk_42_method_66_code 3 (some .boolean)) ws ({ frames := 1, cells := 0, slots := 0, locals := 14 } : Room) #[(.ref u0), (.ref u1)] Z h0 (own_QP (some (.int (own_se u0 u1 z vs xs))) h0 n0) := by
  refine MetFree.of_bodySF (plainFor_of_name pn_19) hisR ?_
  intro p e s m args below meth c s₁ Bd hml0 hP hK
  obtain ⟨rfl, hZ, hh⟩ := hP
  have hx := Bd.exec
  have hby := Bd.bytes
  have hml : c.maxLocals = 3 := hml0
  have hown : s.vm.findClass "java/lang/String" = some m.cls := findClass_of_methodNamed Bd.named
  have hnm := (name_of_methodNamed Bd.named Bd.method).1
  have X0 : Stand p l e ({ frames := 1, cells := 0, slots := 0, locals := 14 } : Room) s m #[(.ref u0), (.ref u1)] below meth c s₁ [] 0 0 := Stand.of_body Bd
  have e0 : s₁.heap = h0 := by rw [← hh, Bd.state]; rfl
  have N0 := Fr.nil n0
  have pre0 : ∀ t, Steps p.tables e below (s₁.setTop (mkF m 0 #[rv u0, rv u1, .unset] [])) t → Steps p.tables e below (s₁.setTop (entryFrame m #[(.ref u0), (.ref u1)] 3)) t := fun t k => castTop (ef_rmEQ3 m u0 u1) k
  have pre2 : ∀ t, Steps p.tables e below (s₁.setTop (mkF m 2 #[rv u0, rv u1, .unset] [(.ref u1), (.ref u0)])) t → Steps p.tables e below (s₁.setTop (entryFrame m #[(.ref u0), (.ref u1)] 3)) t := fun t kt => pre0 t (by
   refine XS.aloadN X0.here hx rfl (hb hby d19_0) rfl rfl ?_
   refine XS.aloadN X0.here hx rfl (hb hby d19_1) rfl rfl ?_
   exact kt)
  by_cases hc2_1 : u0 = u1
  · obtain ⟨fs, hr, hrun, hended, hW, hsame⟩ := X0.leave (v := some (.int (1 : Int32))) (fun h => by rw [Bd.returns] at h; cases h)
    refine ⟨_, _, pre2 _ ?_, hrun, hended, _, _, rfl, ?_, ⟨_, rfl⟩, hW, hsame.mono (by decide) (by decide)⟩
    · refine Jvm.RoadKit.acmp (g := (mkF m 2 #[rv u0, rv u1, .unset] [(.ref u1), (.ref u0)])) X0 hx rfl rfl rfl (pc0 := 2) (pc' := 5) (same := true) rfl (hb hby d19_2) rfl (decide_eq_true (congrArg Value.ref hc2_1)) (by decide) (by decide) ?_
      refine XS.iconst X0.here hx rfl (hb hby d19_5) ?_
      show Steps _ _ _ (s₁.setTop (mkF m 6 #[rv u0, rv u1, .unset] [(.int (1 : Int32))])) _
      exact retN X0 hx (t := .boolean) Bd.returns (by simp) (hb hby d19_6) hr
    · show own_QP (some (.int (own_se u0 u1 z vs xs))) h0 n0 _ s₁.heap _
      rw [e0]
      exact ⟨(congrArg (fun q => some (Value.int q)) (by unfold own_se; rw [if_pos hc2_1])), N0, rfl⟩
  · obtain ⟨T3, X3, e3, st3⟩ := instY X0 hx hZ hown (own_g hw 126 rfl) e0 (Ins.self P_E_u1) (g := (mkF m 8 #[rv u0, rv u1, .unset] [(.ref u1)])) rfl rfl (hb hby d19_8)
    obtain ⟨T4, X4, e4, st4⟩ := castY X3 hx hZ hown (own_g hw 126 rfl) e3 (Ins.self P_E_u1) (g := (mkF m 15 #[rv u0, rv u1, .unset] [(.ref u1)])) rfl rfl (hb hby d19_15)
    obtain ⟨T5, X5, e5, st5⟩ := getS2 X4 hx hZ hown (host := "") (Or.inl (own_g hw 49 rfl)) Via.refl e4 P_S_String_COMPACT_STRINGS (g := (mkF m 19 #[rv u0, rv u1, rv u1] [])) rfl (hb hby d19_19)
    obtain ⟨T6, X6, e6, st6⟩ := getF X5 hx hZ hown (host := "") (Or.inl (own_g hw 27 rfl)) Via.refl e5 P_F_u0_String_coder (g := (mkF m 26 #[rv u0, rv u1, rv u1] [(.ref u0)])) rfl rfl (hb hby d19_26)
    obtain ⟨T7, X7, e7, st7⟩ := getF X6 hx hZ hown (host := "") (Or.inl (own_g hw 27 rfl)) Via.refl e6 P_F_u1_String_coder (g := (mkF m 30 #[rv u0, rv u1, rv u1] [(.ref u1), (.int (0 : Int32))])) rfl rfl (hb hby d19_30)
    obtain ⟨T8, X8, e8, st8⟩ := getF X7 hx hZ hown (host := "") (Or.inl (own_g hw 26 rfl)) Via.refl e7 P_F_u0_String_value (g := (mkF m 37 #[rv u0, rv u1, rv u1] [(.ref u0)])) rfl rfl (hb hby d19_37)
    obtain ⟨T9, X9, e9, st9⟩ := getF X8 hx hZ hown (host := "") (Or.inl (own_g hw 26 rfl)) Via.refl e8 P_F_u1_String_value (g := (mkF m 41 #[rv u0, rv u1, rv u1] [(.ref u1), (.ref tv)])) rfl rfl (hb hby d19_41)
    obtain ⟨_, _, ⟨T10, L10, k10, n10⟩, -, X10, ⟨Lc10, hQ10, l10, y10, z10⟩, st10⟩ := Jvm.LawKit.callS X9 hx (y := own_y24) hown (mvT hZ (own_g hw 127 rfl)) (mvT hZ (own_g hw 128 rfl)) (mvT hZ (own_g hw 101 rfl)) (mvT hZ (own_g hw 129 rfl)) (by decide) (backOf (W := 0) (rmEL3 l Z a0 hw [] tv u kt z vs ku xs h0 n0 Z0 P_G_tv P_G_u) hZ (own_g hw 129 rfl) (own_g hw 101 rfl) (by decide) (by decide)) (g := (mkF m 44 #[rv u0, rv u1, rv u1] [(.ref u), (.ref tv)])) rfl (by rw [hml]; rfl) (argsL := [(.ref tv), (.ref u)]) (rest := []) (lenOf pd___B_B_Z rfl) rfl (by show 2 * 0 + _ ≤ _; exact Nat.le_of_eq rfl) (hb hby d19_44) (fun _ _ => ⟨rfl, e9, (by decide : 0 + 0 ≤ _), (by decide : 0 + 0 ≤ _)⟩)
    dsimp only [Pt.U, Pt.locs, Pt.cells, Pt.slots] at X10 l10 y10 z10 st10 hQ10
    subst l10 y10 z10
    obtain ⟨rfl, N10q, e10⟩ := hQ10
    have N10 := Fr.app N0 N10q
    have pre12 : ∀ t, Steps p.tables e below (T10.setTop (mkF m 47 #[rv u0, rv u1, rv u1] [(.int (own_e3 z vs xs))])) t → Steps p.tables e below (s₁.setTop (entryFrame m #[(.ref u0), (.ref u1)] 3)) t := fun t kt => pre2 t (by
     refine Jvm.RoadKit.acmp (g := (mkF m 2 #[rv u0, rv u1, .unset] [(.ref u1), (.ref u0)])) X0 hx rfl rfl rfl (pc0 := 2) (pc' := 7) (same := false) rfl (hb hby d19_2) rfl (decide_eq_false fun q => hc2_1 (Value.ref.inj q)) (by decide) (by decide) ?_
     refine XS.aloadN X0.here hx rfl (hb hby d19_7) rfl rfl ?_
     refine st3 _ ?_
     refine XS.ifNo X3.here hx rfl (hb hby d19_11) rfl ((if0 _ _).trans (feq (by decide : ¬ ((1 : Int32) = (0 : Int32)))).1) ?_
     refine XS.aloadN X3.here hx rfl (hb hby d19_14) rfl rfl ?_
     refine st4 _ ?_
     refine XS.astoreN X4.here hx rfl (hb hby d19_18) rfl rfl (l' := #[rv u0, rv u1, rv u1]) rfl ?_
     refine st5 _ ?_
     refine XS.ifNo X5.here hx rfl (hb hby d19_22) rfl ((if0 _ _).trans (feq hz).1) ?_
     refine XS.aloadN X5.here hx rfl (hb hby d19_25) rfl rfl ?_
     refine st6 _ ?_
     refine XS.aloadN X6.here hx rfl (hb hby d19_29) rfl rfl ?_
     refine st7 _ ?_
     refine XS.icmpNo X7.here hx rfl (hb hby d19_33) rfl (teq (by decide : (0 : Int32) = (0 : Int32))).2 ?_
     refine XS.aloadN X7.here hx rfl (hb hby d19_36) rfl rfl ?_
     refine st8 _ ?_
     refine XS.aloadN X8.here hx rfl (hb hby d19_40) rfl rfl ?_
     refine st9 _ ?_
     show Steps _ _ _ (T9.setTop (mkF m 44 #[rv u0, rv u1, rv u1] [(.ref u), (.ref tv)])) _
     refine st10 _ ?_
     exact kt)
    by_cases hc47_11 : (own_e3 z vs xs) = (0 : Int32)
    · obtain ⟨fs, hr, hrun, hended, hW, hsame⟩ := X10.leave (v := some (.int (0 : Int32))) (fun h => by rw [Bd.returns] at h; cases h)
      refine ⟨_, _, pre12 _ ?_, hrun, hended, _, _, rfl, ?_, ⟨_, rfl⟩, hW, hsame.mono (by decide) (by decide)⟩
      · refine XS.ifYes X10.here hx rfl (pc0 := 47) (pc' := 54) rfl (hb hby d19_47) rfl ((if0 _ _).trans (teq hc47_11).1) (by decide) (by decide) ?_
        show Steps _ _ _ (T10.setTop (mkF m 54 #[rv u0, rv u1, rv u1] [])) _
        refine XS.iconst X10.here hx rfl (hb hby d19_54) ?_
        show Steps _ _ _ (T10.setTop (mkF m 55 #[rv u0, rv u1, rv u1] [(.int (0 : Int32))])) _
        exact retN X10 hx (t := .boolean) Bd.returns (by simp) (hb hby d19_55) hr
      · show own_QP (some (.int (own_se u0 u1 z vs xs))) h0 n0 _ T10.heap _
        rw [e10]
        exact ⟨(congrArg (fun q => some (Value.int q)) (by unfold own_se; rw [if_neg hc2_1, if_pos hc47_11])), N10, rfl⟩
    · obtain ⟨fs, hr, hrun, hended, hW, hsame⟩ := X10.leave (v := some (.int (1 : Int32))) (fun h => by rw [Bd.returns] at h; cases h)
      refine ⟨_, _, pre12 _ ?_, hrun, hended, _, _, rfl, ?_, ⟨_, rfl⟩, hW, hsame.mono (by decide) (by decide)⟩
      · refine XS.ifNo X10.here hx rfl (hb hby d19_47) rfl ((if0 _ _).trans (feq hc47_11).1) ?_
        refine XS.iconst X10.here hx rfl (hb hby d19_50) ?_
        refine XS.goto X10.here hx rfl (pc0 := 51) (pc' := 55) rfl (hb hby d19_51) (by decide) (by decide) ?_
        show Steps _ _ _ (T10.setTop (mkF m 55 #[rv u0, rv u1, rv u1] [(.int (1 : Int32))])) _
        exact retN X10 hx (t := .boolean) Bd.returns (by simp) (hb hby d19_55) hr
      · show own_QP (some (.int (own_se u0 u1 z vs xs))) h0 n0 _ T10.heap _
        rw [e10]
        exact ⟨(congrArg (fun q => some (Value.int q)) (by unfold own_se; rw [if_neg hc2_1, if_neg hc47_11])), N10, rfl⟩

theorem ef_rmCP (m : MethodId) (x0 : Addr) (x1 : Int32) (x2 : Int32) : entryFrame m #[(.ref x0), (.int x1), (.int x2)] 5 = mkF m 0 #[rv x0, iv x1, iv x2, .unset, .unset] [] := by first | (simp [entryFrame, mkF, argsToLocals, Value.category]; done) | rfl
set_option maxRecDepth 65536 in
set_option maxHeartbeats 40000000 in
theorem rmCP (l : Launch) (Z : State) (a0 : Array Value) (hw : ∀ d ∈ tables_1, d.before a0 Z = true) (ws : List Jvm.Cond) (u0 : Addr) (kt : ClassId) (z : Int32) (vs : List Value) (h0 : Heap) (n0 : Nat) (Z0 : n0 ≤ h0.size) (P_G_u0 : Arv Z h0 u0 kt .byte z vs (.int 0)) (hz4 : ¬ (4 : Int32) < z) (hpos : ∀ j : Int32, ¬ j < 0 → ¬ (own_at vs j) < 0) :
    own_MF l own_y26 (Jvm.Cond.code own_y26 jdk_123_method_3_code 5 (some .int)) ws ({ frames := 0, cells := 0, slots := 0, locals := 0 } : Room) #[(.ref u0), (.int (0 : Int32)), (.int z)] Z h0 (own_QP (some (.int z)) h0 n0) := by
  refine MetFree.of_bodySF (plainFor_of_name pn_10) hisR ?_
  intro p e s m args below meth c s₁ Bd hml0 hP hK
  obtain ⟨rfl, hZ, hh⟩ := hP
  have hx := Bd.exec
  have hby := Bd.bytes
  have hml : c.maxLocals = 5 := hml0
  have hown : s.vm.findClass "java/lang/StringCoding" = some m.cls := findClass_of_methodNamed Bd.named
  have hnm := (name_of_methodNamed Bd.named Bd.method).1
  have X0 : Stand p l e ({ frames := 0, cells := 0, slots := 0, locals := 0 } : Room) s m #[(.ref u0), (.int (0 : Int32)), (.int z)] below meth c s₁ [] 0 0 := Stand.of_body Bd
  have e0 : s₁.heap = h0 := by rw [← hh, Bd.state]; rfl
  have N0 := Fr.nil n0
  have pre0 : ∀ t, Steps p.tables e below (s₁.setTop (mkF m 0 #[rv u0, iv (0 : Int32), iv z, .unset, .unset] [])) t → Steps p.tables e below (s₁.setTop (entryFrame m #[(.ref u0), (.int (0 : Int32)), (.int z)] 5)) t := fun t k => castTop (ef_rmCP m u0 (0 : Int32) z) k
  have pre2 : ∀ t, Steps p.tables e below (s₁.setTop (mkF m 10 #[rv u0, iv (0 : Int32), iv z, iv z, iv (0 : Int32)] [(.int z), (.int (0 : Int32))])) t → Steps p.tables e below (s₁.setTop (entryFrame m #[(.ref u0), (.int (0 : Int32)), (.int z)] 5)) t := fun t kt => pre0 t (by
   refine XS.iloadN X0.here hx rfl (hb hby d10_0) rfl ?_
   refine XS.iloadN X0.here hx rfl (hb hby d10_1) rfl ?_
   refine XS.iadd X0.here hx rfl (hb hby d10_2) rfl ?_
   show Steps _ _ _ (s₁.setTop (mkF m 3 #[rv u0, iv (0 : Int32), iv z, .unset, .unset] [(.int ((0 : Int32) + z))])) _
   rw [own_za z]
   refine XS.istoreN X0.here hx rfl (hb hby d10_3) rfl (l' := #[rv u0, iv (0 : Int32), iv z, iv z, .unset]) rfl ?_
   refine XS.iloadN X0.here hx rfl (hb hby d10_4) rfl ?_
   refine XS.istore X0.here hx rfl (hb hby d10_5) rfl (l' := #[rv u0, iv (0 : Int32), iv z, iv z, iv (0 : Int32)]) rfl ?_
   refine XS.iload X0.here hx rfl (hb hby d10_7) rfl ?_
   refine XS.iloadN X0.here hx rfl (hb hby d10_9) rfl ?_
   exact kt)
  by_cases hc10_1 : (0 : Int32) < z
  · obtain ⟨cl3, Ar3, qq3, S3, N3_, H3, G3⟩ := id P_G_u0
    have hin3 : ¬ ((0 : Int32) < 0 ∨ cl3.slots.size ≤ ((0 : Int32)).toNatClampNeg) := inb_of S3 ⟨by decide, hc10_1⟩
    have hat3 : cl3.slots[((0 : Int32)).toNatClampNeg]? = some (.int (own_at vs (0 : Int32))) := own_atv H3 G3 hin3
    have pre5 : ∀ t, Steps p.tables e below (s₁.setTop (mkF m 10 #[rv u0, iv (0 : Int32), iv z, iv z, iv (1 : Int32)] [(.int z), (.int (1 : Int32))])) t → Steps p.tables e below (s₁.setTop (entryFrame m #[(.ref u0), (.int (0 : Int32)), (.int z)] 5)) t := fun t kt => pre2 t (by
     refine XS.icmpNo X0.here hx rfl (hb hby d10_10) rfl (tlt hc10_1).2.1 ?_
     refine XS.aloadN X0.here hx rfl (hb hby d10_13) rfl rfl ?_
     refine XS.iload X0.here hx rfl (hb hby d10_14) rfl ?_
     refine X0.baloadBytes hx (j := (0 : Int32)) (v := (.int (own_at vs (0 : Int32)))) (by rw [e0]; exact Ar3.1) (State.isArrayOf_alike hZ.alike Ar3.2.1) Ar3.2.2 hin3 hat3 (g := (mkF m 16 #[rv u0, iv (0 : Int32), iv z, iv z, iv (0 : Int32)] [(.int (0 : Int32)), (.ref u0)])) rfl rfl (hb hby d10_16) _ ?_
     refine XS.ifYes X0.here hx rfl (pc0 := 17) (pc' := 25) rfl (hb hby d10_17) rfl ((if0 _ _).trans (flt (hpos _ (by decide))).2.1) (by decide) (by decide) ?_
     refine XS.iinc X0.here hx rfl (hb hby d10_25) rfl (l' := #[rv u0, iv (0 : Int32), iv z, iv z, iv (1 : Int32)]) rfl ?_
     refine XS.goto X0.here hx rfl (pc0 := 28) (pc' := 7) rfl (hb hby d10_28) (by decide) (by decide) ?_
     refine XS.iload X0.here hx rfl (hb hby d10_7) rfl ?_
     refine XS.iloadN X0.here hx rfl (hb hby d10_9) rfl ?_
     exact kt)
    by_cases hc10_4 : (1 : Int32) < z
    · obtain ⟨cl6, Ar6, qq6, S6, N6_, H6, G6⟩ := id P_G_u0
      have hin6 : ¬ ((1 : Int32) < 0 ∨ cl6.slots.size ≤ ((1 : Int32)).toNatClampNeg) := inb_of S6 ⟨by decide, hc10_4⟩
      have hat6 : cl6.slots[((1 : Int32)).toNatClampNeg]? = some (.int (own_at vs (1 : Int32))) := own_atv H6 G6 hin6
      have pre8 : ∀ t, Steps p.tables e below (s₁.setTop (mkF m 10 #[rv u0, iv (0 : Int32), iv z, iv z, iv (2 : Int32)] [(.int z), (.int (2 : Int32))])) t → Steps p.tables e below (s₁.setTop (entryFrame m #[(.ref u0), (.int (0 : Int32)), (.int z)] 5)) t := fun t kt => pre5 t (by
       refine XS.icmpNo X0.here hx rfl (hb hby d10_10) rfl (tlt hc10_4).2.1 ?_
       refine XS.aloadN X0.here hx rfl (hb hby d10_13) rfl rfl ?_
       refine XS.iload X0.here hx rfl (hb hby d10_14) rfl ?_
       refine X0.baloadBytes hx (j := (1 : Int32)) (v := (.int (own_at vs (1 : Int32)))) (by rw [e0]; exact Ar6.1) (State.isArrayOf_alike hZ.alike Ar6.2.1) Ar6.2.2 hin6 hat6 (g := (mkF m 16 #[rv u0, iv (0 : Int32), iv z, iv z, iv (1 : Int32)] [(.int (1 : Int32)), (.ref u0)])) rfl rfl (hb hby d10_16) _ ?_
       refine XS.ifYes X0.here hx rfl (pc0 := 17) (pc' := 25) rfl (hb hby d10_17) rfl ((if0 _ _).trans (flt (hpos _ (by decide))).2.1) (by decide) (by decide) ?_
       refine XS.iinc X0.here hx rfl (hb hby d10_25) rfl (l' := #[rv u0, iv (0 : Int32), iv z, iv z, iv (2 : Int32)]) rfl ?_
       show Steps _ _ _ (s₁.setTop (mkF m 28 #[rv u0, iv (0 : Int32), iv z, iv z, iv (2 : Int32)] [])) _
       refine XS.goto X0.here hx rfl (pc0 := 28) (pc' := 7) rfl (hb hby d10_28) (by decide) (by decide) ?_
       refine XS.iload X0.here hx rfl (hb hby d10_7) rfl ?_
       refine XS.iloadN X0.here hx rfl (hb hby d10_9) rfl ?_
       exact kt)
      by_cases hc10_7 : (2 : Int32) < z
      · obtain ⟨cl9, Ar9, qq9, S9, N9_, H9, G9⟩ := id P_G_u0
        have hin9 : ¬ ((2 : Int32) < 0 ∨ cl9.slots.size ≤ ((2 : Int32)).toNatClampNeg) := inb_of S9 ⟨by decide, hc10_7⟩
        have hat9 : cl9.slots[((2 : Int32)).toNatClampNeg]? = some (.int (own_at vs (2 : Int32))) := own_atv H9 G9 hin9
        have pre11 : ∀ t, Steps p.tables e below (s₁.setTop (mkF m 10 #[rv u0, iv (0 : Int32), iv z, iv z, iv (3 : Int32)] [(.int z), (.int (3 : Int32))])) t → Steps p.tables e below (s₁.setTop (entryFrame m #[(.ref u0), (.int (0 : Int32)), (.int z)] 5)) t := fun t kt => pre8 t (by
         refine XS.icmpNo X0.here hx rfl (hb hby d10_10) rfl (tlt hc10_7).2.1 ?_
         refine XS.aloadN X0.here hx rfl (hb hby d10_13) rfl rfl ?_
         refine XS.iload X0.here hx rfl (hb hby d10_14) rfl ?_
         refine X0.baloadBytes hx (j := (2 : Int32)) (v := (.int (own_at vs (2 : Int32)))) (by rw [e0]; exact Ar9.1) (State.isArrayOf_alike hZ.alike Ar9.2.1) Ar9.2.2 hin9 hat9 (g := (mkF m 16 #[rv u0, iv (0 : Int32), iv z, iv z, iv (2 : Int32)] [(.int (2 : Int32)), (.ref u0)])) rfl rfl (hb hby d10_16) _ ?_
         refine XS.ifYes X0.here hx rfl (pc0 := 17) (pc' := 25) rfl (hb hby d10_17) rfl ((if0 _ _).trans (flt (hpos _ (by decide))).2.1) (by decide) (by decide) ?_
         refine XS.iinc X0.here hx rfl (hb hby d10_25) rfl (l' := #[rv u0, iv (0 : Int32), iv z, iv z, iv (3 : Int32)]) rfl ?_
         refine XS.goto X0.here hx rfl (pc0 := 28) (pc' := 7) rfl (hb hby d10_28) (by decide) (by decide) ?_
         refine XS.iload X0.here hx rfl (hb hby d10_7) rfl ?_
         refine XS.iloadN X0.here hx rfl (hb hby d10_9) rfl ?_
         exact kt)
        by_cases hc10_10 : (3 : Int32) < z
        · obtain ⟨cl12, Ar12, qq12, S12, N12_, H12, G12⟩ := id P_G_u0
          have hin12 : ¬ ((3 : Int32) < 0 ∨ cl12.slots.size ≤ ((3 : Int32)).toNatClampNeg) := inb_of S12 ⟨by decide, hc10_10⟩
          have hat12 : cl12.slots[((3 : Int32)).toNatClampNeg]? = some (.int (own_at vs (3 : Int32))) := own_atv H12 G12 hin12
          obtain ⟨fs, hr, hrun, hended, hW, hsame⟩ := X0.leave (v := some (.int z)) (fun h => by rw [Bd.returns] at h; cases h)
          refine ⟨_, _, pre11 _ ?_, hrun, hended, _, _, rfl, ?_, ⟨_, rfl⟩, hW, hsame.mono (by decide) (by decide)⟩
          · refine XS.icmpNo X0.here hx rfl (hb hby d10_10) rfl (tlt hc10_10).2.1 ?_
            refine XS.aloadN X0.here hx rfl (hb hby d10_13) rfl rfl ?_
            refine XS.iload X0.here hx rfl (hb hby d10_14) rfl ?_
            refine X0.baloadBytes hx (j := (3 : Int32)) (v := (.int (own_at vs (3 : Int32)))) (by rw [e0]; exact Ar12.1) (State.isArrayOf_alike hZ.alike Ar12.2.1) Ar12.2.2 hin12 hat12 (g := (mkF m 16 #[rv u0, iv (0 : Int32), iv z, iv z, iv (3 : Int32)] [(.int (3 : Int32)), (.ref u0)])) rfl rfl (hb hby d10_16) _ ?_
            refine XS.ifYes X0.here hx rfl (pc0 := 17) (pc' := 25) rfl (hb hby d10_17) rfl ((if0 _ _).trans (flt (hpos _ (by decide))).2.1) (by decide) (by decide) ?_
            refine XS.iinc X0.here hx rfl (hb hby d10_25) rfl (l' := #[rv u0, iv (0 : Int32), iv z, iv z, iv (4 : Int32)]) rfl ?_
            refine XS.goto X0.here hx rfl (pc0 := 28) (pc' := 7) rfl (hb hby d10_28) (by decide) (by decide) ?_
            refine XS.iload X0.here hx rfl (hb hby d10_7) rfl ?_
            refine XS.iloadN X0.here hx rfl (hb hby d10_9) rfl ?_
            refine XS.icmpYes X0.here hx rfl (pc0 := 10) (pc' := 31) rfl (hb hby d10_10) rfl (flt hz4).2.1 (by decide) (by decide) ?_
            refine XS.iloadN X0.here hx rfl (hb hby d10_31) rfl ?_
            show Steps _ _ _ (s₁.setTop (mkF m 32 #[rv u0, iv (0 : Int32), iv z, iv z, iv (4 : Int32)] [(.int z)])) _
            exact retI X0 hx Bd.returns (hb hby d10_32) hr
          · show own_QP (some (.int z)) h0 n0 _ s₁.heap _
            rw [e0]
            exact ⟨rfl, N0, rfl⟩
        · obtain ⟨fs, hr, hrun, hended, hW, hsame⟩ := X0.leave (v := some (.int z)) (fun h => by rw [Bd.returns] at h; cases h)
          refine ⟨_, _, pre11 _ ?_, hrun, hended, _, _, rfl, ?_, ⟨_, rfl⟩, hW, hsame.mono (by decide) (by decide)⟩
          · refine XS.icmpYes X0.here hx rfl (pc0 := 10) (pc' := 31) rfl (hb hby d10_10) rfl (flt hc10_10).2.1 (by decide) (by decide) ?_
            show Steps _ _ _ (s₁.setTop (mkF m 31 #[rv u0, iv (0 : Int32), iv z, iv z, iv (3 : Int32)] [])) _
            refine XS.iloadN X0.here hx rfl (hb hby d10_31) rfl ?_
            show Steps _ _ _ (s₁.setTop (mkF m 32 #[rv u0, iv (0 : Int32), iv z, iv z, iv (3 : Int32)] [(.int z)])) _
            exact retI X0 hx Bd.returns (hb hby d10_32) hr
          · show own_QP (some (.int z)) h0 n0 _ s₁.heap _
            rw [e0]
            exact ⟨rfl, N0, rfl⟩
      · obtain ⟨fs, hr, hrun, hended, hW, hsame⟩ := X0.leave (v := some (.int z)) (fun h => by rw [Bd.returns] at h; cases h)
        refine ⟨_, _, pre8 _ ?_, hrun, hended, _, _, rfl, ?_, ⟨_, rfl⟩, hW, hsame.mono (by decide) (by decide)⟩
        · refine XS.icmpYes X0.here hx rfl (pc0 := 10) (pc' := 31) rfl (hb hby d10_10) rfl (flt hc10_7).2.1 (by decide) (by decide) ?_
          refine XS.iloadN X0.here hx rfl (hb hby d10_31) rfl ?_
          show Steps _ _ _ (s₁.setTop (mkF m 32 #[rv u0, iv (0 : Int32), iv z, iv z, iv (2 : Int32)] [(.int z)])) _
          exact retI X0 hx Bd.returns (hb hby d10_32) hr
        · show own_QP (some (.int z)) h0 n0 _ s₁.heap _
          rw [e0]
          exact ⟨rfl, N0, rfl⟩
    · obtain ⟨fs, hr, hrun, hended, hW, hsame⟩ := X0.leave (v := some (.int z)) (fun h => by rw [Bd.returns] at h; cases h)
      refine ⟨_, _, pre5 _ ?_, hrun, hended, _, _, rfl, ?_, ⟨_, rfl⟩, hW, hsame.mono (by decide) (by decide)⟩
      · refine XS.icmpYes X0.here hx rfl (pc0 := 10) (pc' := 31) rfl (hb hby d10_10) rfl (flt hc10_4).2.1 (by decide) (by decide) ?_
        refine XS.iloadN X0.here hx rfl (hb hby d10_31) rfl ?_
        show Steps _ _ _ (s₁.setTop (mkF m 32 #[rv u0, iv (0 : Int32), iv z, iv z, iv (1 : Int32)] [(.int z)])) _
        exact retI X0 hx Bd.returns (hb hby d10_32) hr
      · show own_QP (some (.int z)) h0 n0 _ s₁.heap _
        rw [e0]
        exact ⟨rfl, N0, rfl⟩
  · obtain ⟨fs, hr, hrun, hended, hW, hsame⟩ := X0.leave (v := some (.int z)) (fun h => by rw [Bd.returns] at h; cases h)
    refine ⟨_, _, pre2 _ ?_, hrun, hended, _, _, rfl, ?_, ⟨_, rfl⟩, hW, hsame.mono (by decide) (by decide)⟩
    · refine XS.icmpYes X0.here hx rfl (pc0 := 10) (pc' := 31) rfl (hb hby d10_10) rfl (flt hc10_1).2.1 (by decide) (by decide) ?_
      refine XS.iloadN X0.here hx rfl (hb hby d10_31) rfl ?_
      show Steps _ _ _ (s₁.setTop (mkF m 32 #[rv u0, iv (0 : Int32), iv z, iv z, iv (0 : Int32)] [(.int z)])) _
      exact retI X0 hx Bd.returns (hb hby d10_32) hr
    · show own_QP (some (.int z)) h0 n0 _ s₁.heap _
      rw [e0]
      exact ⟨rfl, N0, rfl⟩

theorem ef_rmEA (m : MethodId) (x0 : Int32) (x1 : Addr) : entryFrame m #[(.int x0), (.ref x1)] 7 = mkF m 0 #[iv x0, rv x1, .unset, .unset, .unset, .unset, .unset] [] := by first | (simp [entryFrame, mkF, argsToLocals, Value.category]; done) | rfl
def Q_rmEA (Z : State) (u1 : Addr) (kt : ClassId) (z : Int32) (vs : List Value) (h0 : Heap) (n0 : Nat) (v : Option Value) (h : Heap) (L : List Loc) : Prop := ∃ (ta : Addr), ∃ (ka : ClassId), (v = (some (.ref ta)) ∧ Fr n0 L ∧ Keep h0 h [] ∧ h0.size ≤ ta ∧ Exa Z h ta "[B" ∧ Arv Z h ta ka .byte z vs (.int 0))
set_option maxRecDepth 65536 in
set_option maxHeartbeats 40000000 in
theorem rmEA (l : Launch) (Z : State) (a0 : Array Value) (hw : ∀ d ∈ tables_1, d.before a0 Z = true) (ws : List Jvm.Cond) (u1 : Addr) (kt : ClassId) (z : Int32) (vs : List Value) (h0 : Heap) (n0 : Nat) (Z0 : n0 ≤ h0.size) (P_E_u1 : Exa Z h0 u1 "[B") (P_G_u1 : Arv Z h0 u1 kt .byte z vs (.int 0)) (hz4 : ¬ (4 : Int32) < z) (hpos : ∀ j : Int32, ¬ j < 0 → ¬ (own_at vs j) < 0) :
    own_MF l own_y27 (Jvm.Cond.code own_y27 jdk_42_method_24_code 7 (some (.array .byte))) ws ({ frames := 1, cells := 1, slots := 4, locals := 16 } : Room) #[(.int (0 : Int32)), (.ref u1)] Z h0 (Q_rmEA Z u1 kt z vs h0 n0) := by
  refine MetFree.of_bodySF (plainFor_of_name pn_9) hisR ?_
  intro p e s m args below meth c s₁ Bd hml0 hP hK
  obtain ⟨rfl, hZ, hh⟩ := hP
  have hx := Bd.exec
  have hby := Bd.bytes
  have hml : c.maxLocals = 7 := hml0
  have hown : s.vm.findClass "java/lang/String" = some m.cls := findClass_of_methodNamed Bd.named
  have hnm := (name_of_methodNamed Bd.named Bd.method).1
  have X0 : Stand p l e ({ frames := 1, cells := 1, slots := 4, locals := 16 } : Room) s m #[(.int (0 : Int32)), (.ref u1)] below meth c s₁ [] 0 0 := Stand.of_body Bd
  have e0 : s₁.heap = h0 := by rw [← hh, Bd.state]; rfl
  have N0 := Fr.nil n0
  have pre0 : ∀ t, Steps p.tables e below (s₁.setTop (mkF m 0 #[iv (0 : Int32), rv u1, .unset, .unset, .unset, .unset, .unset] [])) t → Steps p.tables e below (s₁.setTop (entryFrame m #[(.int (0 : Int32)), (.ref u1)] 7)) t := fun t k => castTop (ef_rmEA m (0 : Int32) u1) k
  obtain ⟨cl1, Ar1, qq1, S1, N1_, H1, G1⟩ := id P_G_u1
  obtain ⟨_, _, ⟨T2, L2, k2, n2⟩, -, X2, ⟨Lc2, hQ2, l2, y2, z2⟩, st2⟩ := Jvm.LawKit.callS X0 hx (y := own_y26) hown (mvT hZ (own_g hw 62 rfl)) (mvT hZ (own_g hw 63 rfl)) (mvT hZ (own_g hw 64 rfl)) (mvT hZ (own_g hw 65 rfl)) (by decide) (backOf (W := 0) (rmCP l Z a0 hw [] u1 kt z vs h0 n0 Z0 P_G_u1 hz4 hpos) hZ (own_g hw 65 rfl) (own_g hw 64 rfl) (by decide) (by decide)) (g := (mkF m 8 #[iv (0 : Int32), rv u1, .unset, .unset, .unset, .unset, .unset] [(.int z), (.int (0 : Int32)), (.ref u1)])) rfl (by rw [hml]; rfl) (argsL := [(.ref u1), (.int (0 : Int32)), (.int z)]) (rest := []) (lenOf pd___BII_I rfl) rfl (by show 2 * 0 + _ ≤ _; exact Nat.le_of_eq rfl) (hb hby d9_8) (fun _ _ => ⟨rfl, e0, (by decide : 0 + 0 ≤ _), (by decide : 0 + 0 ≤ _)⟩)
  dsimp only [Pt.U, Pt.locs, Pt.cells, Pt.slots] at X2 l2 y2 z2 st2 hQ2
  subst l2 y2 z2
  obtain ⟨rfl, N2q, e2⟩ := hQ2
  have N2 := Fr.app N0 N2q
  obtain ⟨T3, h3, X3, e3, E3, A3, Q3, st3⟩ := cloneH X2 hx hZ hown (own_g hw 66 rfl) (own_g hw 67 rfl) (own_g hw 71 rfl) (own_g hw 69 rfl) (own_g hw 70 rfl) (own_g hw 72 rfl) e2 (Arv.arh P_G_u1) P_E_u1 (g := (mkF m 13 #[iv (0 : Int32), rv u1, iv z, .unset, .unset, .unset, .unset] [(.ref u1)])) rfl (by rw [hml]; rfl) rfl (hb hby d9_13) (by decide) (W := 0) (by show 2 * 0 + _ ≤ _; exact Nat.le_of_eq rfl) (by decide) (cap := 4) (own_cap4 hz4) (by decide) (by decide)
  obtain ⟨b3, g3⟩ : ∃ z, z = h0.size := ⟨_, rfl⟩
  rw [← g3] at A3 st3 Q3
  have ne4 : u1 ≠ b3 := Nat.ne_of_lt (Nat.lt_of_lt_of_le P_E_u1.lt (Nat.le_of_eq g3.symm))
  have o3 : n0 ≤ b3 := Nat.le_trans Z0 (Nat.le_of_eq g3.symm)
  have z3 : h0.size ≤ b3 := Nat.le_trans (Keep.refl h0 []).1 (Nat.le_of_eq g3.symm)
  have K3 : Keep h0 h3 [] := (Keep.refl h0 []).ext E3
  have V3 : Arv Z h3 b3 kt .byte z vs (.int 0) := A3
  obtain ⟨T5, X5, e5, st5⟩ := castY X3 hx hZ hown (own_g hw 73 rfl) e3 (Ins.self Q3) (g := (mkF m 16 #[iv (0 : Int32), rv u1, iv z, .unset, .unset, .unset, .unset] [(.ref b3)])) rfl rfl (hb hby d9_16)
  obtain ⟨cl6, Ar6, qq6, S6, N6_, H6, G6⟩ := id V3
  obtain ⟨fs, hr, hrun, hended, hW, hsame⟩ := X5.leave (v := some (.ref b3)) (fun h => by rw [Bd.returns] at h; cases h)
  refine ⟨_, _, pre0 _ ?_, hrun, hended, _, _, rfl, ?_, ⟨_, rfl⟩, hW, hsame.mono (by decide) (by decide)⟩
  · refine XS.iloadN X0.here hx rfl (hb hby d9_0) rfl ?_
    refine XS.ifNo X0.here hx rfl (hb hby d9_1) rfl ((if0 _ _).trans (teq (by decide : (0 : Int32) = (0 : Int32))).2) ?_
    refine XS.aloadN X0.here hx rfl (hb hby d9_4) rfl rfl ?_
    refine XS.iconst X0.here hx rfl (hb hby d9_5) ?_
    refine XS.aloadN X0.here hx rfl (hb hby d9_6) rfl rfl ?_
    refine X0.arraylength hx (by rw [e0]; exact Ar1.1) (State.isArrayOf_alike hZ.alike Ar1.2.1) (g := (mkF m 7 #[iv (0 : Int32), rv u1, .unset, .unset, .unset, .unset, .unset] [(.ref u1), (.int (0 : Int32)), (.ref u1)])) rfl rfl (hb hby d9_7) _ ?_
    rw [len_of S1 N1_]
    show Steps _ _ _ (s₁.setTop (mkF m 8 #[iv (0 : Int32), rv u1, .unset, .unset, .unset, .unset, .unset] [(.int z), (.int (0 : Int32)), (.ref u1)])) _
    refine st2 _ ?_
    refine XS.istoreN X2.here hx rfl (hb hby d9_11) rfl (l' := #[iv (0 : Int32), rv u1, iv z, .unset, .unset, .unset, .unset]) rfl ?_
    refine XS.aloadN X2.here hx rfl (hb hby d9_12) rfl rfl ?_
    show Steps _ _ _ (T2.setTop (mkF m 13 #[iv (0 : Int32), rv u1, iv z, .unset, .unset, .unset, .unset] [(.ref u1)])) _
    refine st3 _ ?_
    refine st5 _ ?_
    refine XS.astoreN X5.here hx rfl (hb hby d9_19) rfl rfl (l' := #[iv (0 : Int32), rv u1, iv z, rv b3, .unset, .unset, .unset]) rfl ?_
    refine XS.iloadN X5.here hx rfl (hb hby d9_20) rfl ?_
    refine XS.aloadN X5.here hx rfl (hb hby d9_21) rfl rfl ?_
    refine X5.arraylength hx (by rw [e5]; exact Ar6.1) (State.isArrayOf_alike hZ.alike Ar6.2.1) (g := (mkF m 22 #[iv (0 : Int32), rv u1, iv z, rv b3, .unset, .unset, .unset] [(.ref b3), (.int z)])) rfl rfl (hb hby d9_22) _ ?_
    rw [len_of S6 N6_]
    refine XS.icmpYes X5.here hx rfl (pc0 := 23) (pc' := 31) rfl (hb hby d9_23) rfl (flt Int32.lt_irrefl).2.1 (by decide) (by decide) ?_
    refine XS.aloadN X5.here hx rfl (hb hby d9_31) rfl rfl ?_
    show Steps _ _ _ (T5.setTop (mkF m 32 #[iv (0 : Int32), rv u1, iv z, rv b3, .unset, .unset, .unset] [(.ref b3)])) _
    exact retOut X5 hx Bd.returns rfl (Or.inr (Or.inr (Or.inr (Or.inr ⟨rfl, rfl, rfl⟩)))) (hb hby d9_32) hr
  · show Q_rmEA Z u1 kt z vs h0 n0 _ T5.heap _
    rw [e5]
    exact ⟨b3, kt, rfl, N2, K3, z3, Q3, V3⟩

theorem ef_rmEn (m : MethodId) (x0 : Addr) (x1 : Int32) (x2 : Addr) : entryFrame m #[(.ref x0), (.int x1), (.ref x2)] 3 = mkF m 0 #[rv x0, iv x1, rv x2] [] := by first | (simp [entryFrame, mkF, argsToLocals, Value.category]; done) | rfl
def Q_rmEn (Z : State) (u0 : Addr) (u2 : Addr) (kt : ClassId) (z : Int32) (vs : List Value) (a8 : Addr) (ai : Addr) (h0 : Heap) (n0 : Nat) (v : Option Value) (h : Heap) (L : List Loc) : Prop := ∃ (ta : Addr), ∃ (ka : ClassId), (v = (some (.ref ta)) ∧ Fr n0 L ∧ Keep h0 h [] ∧ h0.size ≤ ta ∧ Exa Z h ta "[B" ∧ Arv Z h ta ka .byte z vs (.int 0))
set_option maxRecDepth 65536 in
set_option maxHeartbeats 40000000 in
theorem rmEn (l : Launch) (Z : State) (a0 : Array Value) (hw : ∀ d ∈ tables_1, d.before a0 Z = true) (ws : List Jvm.Cond) (u0 : Addr) (u2 : Addr) (kt : ClassId) (z : Int32) (vs : List Value) (a8 : Addr) (ai : Addr) (h0 : Heap) (n0 : Nat) (Z0 : n0 ≤ h0.size) (P_E_u2 : Exa Z h0 u2 "[B") (P_G_u2 : Arv Z h0 u2 kt .byte z vs (.int 0)) (hz4 : ¬ (4 : Int32) < z) (hpos : ∀ j : Int32, ¬ j < 0 → ¬ (own_at vs j) < 0) (P_S_US_ASCII_INSTANCE : Sta Z h0 "sun/nio/cs/US_ASCII" "INSTANCE" "Lsun/nio/cs/US_ASCII;" (.ref u0)) (P_S_UTF_8_INSTANCE : Sta Z h0 "sun/nio/cs/UTF_8" "INSTANCE" "Lsun/nio/cs/UTF_8;" (.ref a8)) (P_S_ISO_8859_1_INSTANCE : Sta Z h0 "sun/nio/cs/ISO_8859_1" "INSTANCE" "Lsun/nio/cs/ISO_8859_1;" (.ref ai)) (neU8 : u0 ≠ a8) (neUI : u0 ≠ ai) :
    own_MF l own_y28 (Jvm.Cond.code own_y28 jdk_42_method_18_code 3 (some (.array .byte))) ws ({ frames := 2, cells := 1, slots := 4, locals := 34 } : Room) #[(.ref u0), (.int (0 : Int32)), (.ref u2)] Z h0 (Q_rmEn Z u0 u2 kt z vs a8 ai h0 n0) := by
  refine MetFree.of_bodySF (plainFor_of_name pn_8) hisR ?_
  intro p e s m args below meth c s₁ Bd hml0 hP hK
  obtain ⟨rfl, hZ, hh⟩ := hP
  have hx := Bd.exec
  have hby := Bd.bytes
  have hml : c.maxLocals = 3 := hml0
  have hown : s.vm.findClass "java/lang/String" = some m.cls := findClass_of_methodNamed Bd.named
  have hnm := (name_of_methodNamed Bd.named Bd.method).1
  have X0 : Stand p l e ({ frames := 2, cells := 1, slots := 4, locals := 34 } : Room) s m #[(.ref u0), (.int (0 : Int32)), (.ref u2)] below meth c s₁ [] 0 0 := Stand.of_body Bd
  have e0 : s₁.heap = h0 := by rw [← hh, Bd.state]; rfl
  have N0 := Fr.nil n0
  have pre0 : ∀ t, Steps p.tables e below (s₁.setTop (mkF m 0 #[rv u0, iv (0 : Int32), rv u2] [])) t → Steps p.tables e below (s₁.setTop (entryFrame m #[(.ref u0), (.int (0 : Int32)), (.ref u2)] 3)) t := fun t k => castTop (ef_rmEn m u0 (0 : Int32) u2) k
  obtain ⟨T1, X1, e1, st1⟩ := getS2 X0 hx hZ hown (host := "") (Or.inl (own_g hw 53 rfl)) Via.refl e0 P_S_UTF_8_INSTANCE (g := (mkF m 1 #[rv u0, iv (0 : Int32), rv u2] [(.ref u0)])) rfl (hb hby d8_1)
  obtain ⟨T2, X2, e2, st2⟩ := getS2 X1 hx hZ hown (host := "") (Or.inl (own_g hw 55 rfl)) Via.refl e1 P_S_ISO_8859_1_INSTANCE (g := (mkF m 15 #[rv u0, iv (0 : Int32), rv u2] [(.ref u0)])) rfl (hb hby d8_15)
  obtain ⟨T3, X3, e3, st3⟩ := getS2 X2 hx hZ hown (host := "") (Or.inl (own_g hw 57 rfl)) Via.refl e2 P_S_US_ASCII_INSTANCE (g := (mkF m 28 #[rv u0, iv (0 : Int32), rv u2] [(.ref u0)])) rfl (hb hby d8_28)
  obtain ⟨_, _, ⟨T4, L4, k4, n4⟩, -, X4, ⟨Lc4, hQ4, l4, y4, z4⟩, st4⟩ := Jvm.LawKit.callS X3 hx (y := own_y27) hown (mvT hZ (own_g hw 59 rfl)) (mvT hZ (own_g hw 60 rfl)) (mvT hZ (own_g hw 8 rfl)) (mvT hZ (own_g hw 61 rfl)) (by decide) (backOf (W := 0) (rmEA l Z a0 hw [] u2 kt z vs h0 n0 Z0 P_E_u2 P_G_u2 hz4 hpos) hZ (own_g hw 61 rfl) (own_g hw 8 rfl) (by decide) (by decide)) (g := (mkF m 36 #[rv u0, iv (0 : Int32), rv u2] [(.ref u2), (.int (0 : Int32))])) rfl (by rw [hml]; rfl) (argsL := [(.int (0 : Int32)), (.ref u2)]) (rest := []) (lenOf pd__B_B__B rfl) rfl (by show 2 * 0 + _ ≤ _; exact Nat.le_of_eq rfl) (hb hby d8_36) (fun _ _ => ⟨rfl, e3, (by decide : 0 + 1 ≤ _), (by decide : 0 + 4 ≤ _)⟩)
  dsimp only [Pt.U, Pt.locs, Pt.cells, Pt.slots] at X4 l4 y4 z4 st4 hQ4
  subst l4 y4 z4
  obtain ⟨ta_4, ka_4, rfl, N4q, K4, sx4_0, f5, f6⟩ := hQ4
  have ota_4 : n0 ≤ ta_4 := Nat.le_trans Z0 sx4_0
  have zta_4 : h0.size ≤ ta_4 := Nat.le_trans (Keep.refl h0 []).1 sx4_0
  have ne7 : u2 ≠ ta_4 := Nat.ne_of_lt (Nat.lt_of_lt_of_le P_E_u2.lt sx4_0)
  have KK4 : Keep h0 T4.heap [] := Keep.trans (Keep.refl h0 []) K4 all0
  have N4 := Fr.app N0 N4q
  obtain ⟨fs, hr, hrun, hended, hW, hsame⟩ := X4.leave (v := some (.ref ta_4)) (fun h => by rw [Bd.returns] at h; cases h)
  refine ⟨_, _, pre0 _ ?_, hrun, hended, _, _, rfl, ?_, ⟨_, rfl⟩, hW, hsame.mono (by decide) (by decide)⟩
  · refine XS.aloadN X0.here hx rfl (hb hby d8_0) rfl rfl ?_
    refine st1 _ ?_
    refine Jvm.RoadKit.acmp (g := (mkF m 4 #[rv u0, iv (0 : Int32), rv u2] [(.ref a8), (.ref u0)])) X1 hx rfl rfl rfl (pc0 := 4) (pc' := 14) (same := false) rfl (hb hby d8_4) rfl (decide_eq_false fun q => neU8 (Value.ref.inj q)) (by decide) (by decide) ?_
    refine XS.aloadN X1.here hx rfl (hb hby d8_14) rfl rfl ?_
    refine st2 _ ?_
    refine Jvm.RoadKit.acmp (g := (mkF m 18 #[rv u0, iv (0 : Int32), rv u2] [(.ref ai), (.ref u0)])) X2 hx rfl rfl rfl (pc0 := 18) (pc' := 27) (same := false) rfl (hb hby d8_18) rfl (decide_eq_false fun q => neUI (Value.ref.inj q)) (by decide) (by decide) ?_
    refine XS.aloadN X2.here hx rfl (hb hby d8_27) rfl rfl ?_
    refine st3 _ ?_
    refine Jvm.RoadKit.acmp (g := (mkF m 31 #[rv u0, iv (0 : Int32), rv u2] [(.ref u0), (.ref u0)])) X3 hx rfl rfl rfl (pc0 := 31) (pc' := 34) (same := true) rfl (hb hby d8_31) rfl (decide_eq_true rfl) (by decide) (by decide) ?_
    refine XS.iloadN X3.here hx rfl (hb hby d8_34) rfl ?_
    refine XS.aloadN X3.here hx rfl (hb hby d8_35) rfl rfl ?_
    show Steps _ _ _ (T3.setTop (mkF m 36 #[rv u0, iv (0 : Int32), rv u2] [(.ref u2), (.int (0 : Int32))])) _
    refine st4 _ ?_
    show Steps _ _ _ (T4.setTop (mkF m 39 #[rv u0, iv (0 : Int32), rv u2] [(.ref ta_4)])) _
    exact retOut X4 hx Bd.returns rfl (Or.inr (Or.inr (Or.inr (Or.inr ⟨rfl, rfl, rfl⟩)))) (hb hby d8_39) hr
  · show Q_rmEn Z u0 u2 kt z vs a8 ai h0 n0 _ T4.heap _
    exact ⟨ta_4, ka_4, rfl, N4, KK4, zta_4, f5, f6⟩

theorem ef_rmGB (m : MethodId) (x0 : Addr) (x1 : Addr) : entryFrame m #[(.ref x0), (.ref x1)] 2 = mkF m 0 #[rv x0, rv x1] [] := by first | (simp [entryFrame, mkF, argsToLocals, Value.category]; done) | rfl
def Q_rmGB (Z : State) (u0 : Addr) (u1 : Addr) (tv : Addr) (kt : ClassId) (z : Int32) (vs : List Value) (a8 : Addr) (ai : Addr) (zC : Int32) (h0 : Heap) (n0 : Nat) (v : Option Value) (h : Heap) (L : List Loc) : Prop := ∃ (ta : Addr), ∃ (ka : ClassId), (v = (some (.ref ta)) ∧ Fr n0 L ∧ Keep h0 h [] ∧ h0.size ≤ ta ∧ Exa Z h ta "[B" ∧ Arv Z h ta ka .byte z vs (.int 0))
set_option maxRecDepth 65536 in
set_option maxHeartbeats 40000000 in
theorem rmGB (l : Launch) (Z : State) (a0 : Array Value) (hw : ∀ d ∈ tables_1, d.before a0 Z = true) (ws : List Jvm.Cond) (u0 : Addr) (u1 : Addr) (tv : Addr) (kt : ClassId) (z : Int32) (vs : List Value) (a8 : Addr) (ai : Addr) (zC : Int32) (h0 : Heap) (n0 : Nat) (Z0 : n0 ≤ h0.size) (P_E_u0 : Exa Z h0 u0 "java/lang/String") (P_F_u0_String_value : Fld Z h0 u0 "java/lang/String" "value" "[B" (.ref tv)) (P_F_u0_String_coder : Fld Z h0 u0 "java/lang/String" "coder" "B" (.int (0 : Int32))) (P_G_tv : Arv Z h0 tv kt .byte z vs (.int 0)) (P_E_tv : Exa Z h0 tv "[B") (hz4 : ¬ (4 : Int32) < z) (hpos : ∀ j : Int32, ¬ j < 0 → ¬ (own_at vs j) < 0) (P_S_US_ASCII_INSTANCE : Sta Z h0 "sun/nio/cs/US_ASCII" "INSTANCE" "Lsun/nio/cs/US_ASCII;" (.ref u1)) (P_S_UTF_8_INSTANCE : Sta Z h0 "sun/nio/cs/UTF_8" "INSTANCE" "Lsun/nio/cs/UTF_8;" (.ref a8)) (P_S_ISO_8859_1_INSTANCE : Sta Z h0 "sun/nio/cs/ISO_8859_1" "INSTANCE" "Lsun/nio/cs/ISO_8859_1;" (.ref ai)) (neU8 : u1 ≠ a8) (neUI : u1 ≠ ai) (P_S_String_COMPACT_STRINGS : Sta Z h0 "java/lang/String" "COMPACT_STRINGS" "Z" (.int zC)) (hz : ¬ (zC = (0 : Int32))) :
    own_MF l own_y29 (Jvm.Cond.code own_y29 jdk_42_method_64_code 2 (some (.array .byte))) ws ({ frames := 3, cells := 1, slots := 4, locals := 48 } : Room) #[(.ref u0), (.ref u1)] Z h0 (Q_rmGB Z u0 u1 tv kt z vs a8 ai zC h0 n0) := by
  refine MetFree.of_bodySF (plainFor_of_name pn_6) hisR ?_
  intro p e s m args below meth c s₁ Bd hml0 hP hK
  obtain ⟨rfl, hZ, hh⟩ := hP
  have hx := Bd.exec
  have hby := Bd.bytes
  have hml : c.maxLocals = 2 := hml0
  have hown : s.vm.findClass "java/lang/String" = some m.cls := findClass_of_methodNamed Bd.named
  have hnm := (name_of_methodNamed Bd.named Bd.method).1
  have X0 : Stand p l e ({ frames := 3, cells := 1, slots := 4, locals := 48 } : Room) s m #[(.ref u0), (.ref u1)] below meth c s₁ [] 0 0 := Stand.of_body Bd
  have e0 : s₁.heap = h0 := by rw [← hh, Bd.state]; rfl
  have N0 := Fr.nil n0
  have pre0 : ∀ t, Steps p.tables e below (s₁.setTop (mkF m 0 #[rv u0, rv u1] [])) t → Steps p.tables e below (s₁.setTop (entryFrame m #[(.ref u0), (.ref u1)] 2)) t := fun t k => castTop (ef_rmGB m u0 u1) k
  obtain ⟨cq2, kq2, q2a, q2b, q2c⟩ := isOf hZ e0 P_E_u0
  obtain ⟨_, _, ⟨T1, L1, k1, n1⟩, -, X1, ⟨Lc1, hQ1, l1, y1, z1⟩, st1⟩ := X0.virtualBack hx (y := own_y6) (z := own_y6) hown (mvT hZ (own_g hw 44 rfl)) (mvT hZ (own_g hw 45 rfl)) (notFace_of_selects (args := #[]) (mvT hZ (own_g hw 47 rfl))) (mvT hZ (own_g hw 47 rfl)) (mvT hZ (own_g hw 46 rfl)) (by decide) (backOf (W := 1) (rmCo l Z a0 hw [] u0 zC h0 n0 Z0 P_F_u0_String_coder P_S_String_COMPACT_STRINGS hz) hZ (own_g hw 48 rfl) (own_g hw 8 rfl) (by decide) (by decide)) q2a q2c (g := (mkF m 14 #[rv u0, rv u1] [(.ref u0), (.ref u1)])) rfl (by rw [hml]; rfl) (Steps.refl _) (argsL := []) (rest := [(.ref u1)]) (lenOf pd___B rfl) rfl (by show 2 * 0 + _ ≤ _; exact Nat.le_of_eq rfl) (hb hby d6_14) (fun _ _ => ⟨rfl, e0, (by decide : 0 + 0 ≤ _), (by decide : 0 + 0 ≤ _)⟩)
  dsimp only [Pt.U, Pt.locs, Pt.cells, Pt.slots] at X1 l1 y1 z1 st1 hQ1
  subst l1 y1 z1
  obtain ⟨rfl, N1q, e1⟩ := hQ1
  have N1 := Fr.app N0 N1q
  obtain ⟨T3, X3, e3, st3⟩ := getF X1 hx hZ hown (host := "") (Or.inl (own_g hw 26 rfl)) Via.refl e1 P_F_u0_String_value (g := (mkF m 18 #[rv u0, rv u1] [(.ref u0), (.int (0 : Int32)), (.ref u1)])) rfl rfl (hb hby d6_18)
  obtain ⟨_, _, ⟨T4, L4, k4, n4⟩, -, X4, ⟨Lc4, hQ4, l4, y4, z4⟩, st4⟩ := Jvm.LawKit.callS X3 hx (y := own_y28) hown (mvT hZ (own_g hw 50 rfl)) (mvT hZ (own_g hw 51 rfl)) (mvT hZ (own_g hw 8 rfl)) (mvT hZ (own_g hw 52 rfl)) (by decide) (backOf (W := 0) (rmEn l Z a0 hw [] u1 tv kt z vs a8 ai h0 n0 Z0 P_E_tv P_G_tv hz4 hpos P_S_US_ASCII_INSTANCE P_S_UTF_8_INSTANCE P_S_ISO_8859_1_INSTANCE neU8 neUI) hZ (own_g hw 52 rfl) (own_g hw 8 rfl) (by decide) (by decide)) (g := (mkF m 21 #[rv u0, rv u1] [(.ref tv), (.int (0 : Int32)), (.ref u1)])) rfl (by rw [hml]; rfl) (argsL := [(.ref u1), (.int (0 : Int32)), (.ref tv)]) (rest := []) (lenOf pd__Ljava_nio_charset_Charset_B_B__B rfl) rfl (by show 2 * 0 + _ ≤ _; exact Nat.le_of_eq rfl) (hb hby d6_21) (fun _ _ => ⟨rfl, e3, (by decide : 0 + 1 ≤ _), (by decide : 0 + 4 ≤ _)⟩)
  dsimp only [Pt.U, Pt.locs, Pt.cells, Pt.slots] at X4 l4 y4 z4 st4 hQ4
  subst l4 y4 z4
  obtain ⟨ta_4, ka_4, rfl, N4q, K4, sx4_0, f5, f6⟩ := hQ4
  have ota_4 : n0 ≤ ta_4 := Nat.le_trans Z0 sx4_0
  have zta_4 : h0.size ≤ ta_4 := Nat.le_trans (Keep.refl h0 []).1 sx4_0
  have ne7 : u0 ≠ ta_4 := Nat.ne_of_lt (Nat.lt_of_lt_of_le P_E_u0.lt sx4_0)
  have ne8 : tv ≠ ta_4 := Nat.ne_of_lt (Nat.lt_of_lt_of_le P_G_tv.lt sx4_0)
  have KK4 : Keep h0 T4.heap [] := Keep.trans (Keep.refl h0 []) K4 all0
  have N4 := Fr.app N1 N4q
  obtain ⟨fs, hr, hrun, hended, hW, hsame⟩ := X4.leave (v := some (.ref ta_4)) (fun h => by rw [Bd.returns] at h; cases h)
  refine ⟨_, _, pre0 _ ?_, hrun, hended, _, _, rfl, ?_, ⟨_, rfl⟩, hW, hsame.mono (by decide) (by decide)⟩
  · refine XS.aloadN X0.here hx rfl (hb hby d6_0) rfl rfl ?_
    refine XS.ifnonnullYes X0.here hx rfl (pc0 := 1) (pc' := 12) rfl (hb hby d6_1) rfl (by decide) (by decide) ?_
    refine XS.aloadN X0.here hx rfl (hb hby d6_12) rfl rfl ?_
    refine XS.aloadN X0.here hx rfl (hb hby d6_13) rfl rfl ?_
    show Steps _ _ _ (s₁.setTop (mkF m 14 #[rv u0, rv u1] [(.ref u0), (.ref u1)])) _
    refine st1.trans ?_
    refine XS.aloadN X1.here hx rfl (hb hby d6_17) rfl rfl ?_
    refine st3 _ ?_
    show Steps _ _ _ (T3.setTop (mkF m 21 #[rv u0, rv u1] [(.ref tv), (.int (0 : Int32)), (.ref u1)])) _
    refine st4 _ ?_
    show Steps _ _ _ (T4.setTop (mkF m 24 #[rv u0, rv u1] [(.ref ta_4)])) _
    exact retOut X4 hx Bd.returns rfl (Or.inr (Or.inr (Or.inr (Or.inr ⟨rfl, rfl, rfl⟩)))) (hb hby d6_24) hr
  · show Q_rmGB Z u0 u1 tv kt z vs a8 ai zC h0 n0 _ T4.heap _
    exact ⟨ta_4, ka_4, rfl, N4, KK4, zta_4, f5, f6⟩

theorem ef_rmIB (m : MethodId) (x0 : Addr) (x1 : Addr) (x2 : Int32) : entryFrame m #[(.ref x0), (.ref x1), (.int x2)] 3 = mkF m 0 #[rv x0, rv x1, iv x2] [] := by first | (simp [entryFrame, mkF, argsToLocals, Value.category]; done) | rfl
def Q_rmIB (Z : State) (u0 : Addr) (u1 : Addr) (h0 : Heap) (n0 : Nat) (v : Option Value) (h : Heap) (L : List Loc) : Prop := (v = none ∧ Fr n0 L ∧ Keep h0 h [u0] ∧ Exa Z h u0 "java/lang/String" ∧ Fld Z h u0 "java/lang/String" "value" "[B" (.ref u1) ∧ Fld Z h u0 "java/lang/String" "coder" "B" (.int (0 : Int32)))
set_option maxRecDepth 65536 in
set_option maxHeartbeats 40000000 in
theorem rmIB (l : Launch) (Z : State) (a0 : Array Value) (hw : ∀ d ∈ tables_1, d.before a0 Z = true) (ws : List Jvm.Cond) (u0 : Addr) (u1 : Addr) (h0 : Heap) (n0 : Nat) (Z0 : n0 ≤ h0.size) (P_E_u0 : Exa Z h0 u0 "java/lang/String") (P_F_u0_String_value : Fld Z h0 u0 "java/lang/String" "value" "[B" .null) (P_F_u0_String_coder : Fld Z h0 u0 "java/lang/String" "coder" "B" (.int (0 : Int32))) (g_u0 : n0 ≤ u0) :
    own_MF l own_y30 (Jvm.Cond.code own_y30 jdk_42_method_151_code 3 none) ws ({ frames := 1, cells := 0, slots := 0, locals := 12 } : Room) #[(.ref u0), (.ref u1), (.int (0 : Int32))] Z h0 (Q_rmIB Z u0 u1 h0 n0) := by
  refine MetFree.of_bodySF (plainFor_of_name pn_33) hisR ?_
  intro p e s m args below meth c s₁ Bd hml0 hP hK
  obtain ⟨rfl, hZ, hh⟩ := hP
  have hx := Bd.exec
  have hby := Bd.bytes
  have hml : c.maxLocals = 3 := hml0
  have hown : s.vm.findClass "java/lang/String" = some m.cls := findClass_of_methodNamed Bd.named
  have hnm := (name_of_methodNamed Bd.named Bd.method).1
  have X0 : Stand p l e ({ frames := 1, cells := 0, slots := 0, locals := 12 } : Room) s m #[(.ref u0), (.ref u1), (.int (0 : Int32))] below meth c s₁ [] 0 0 := Stand.of_body Bd
  have e0 : s₁.heap = h0 := by rw [← hh, Bd.state]; rfl
  have N0 := Fr.nil n0
  have pre0 : ∀ t, Steps p.tables e below (s₁.setTop (mkF m 0 #[rv u0, rv u1, iv (0 : Int32)] [])) t → Steps p.tables e below (s₁.setTop (entryFrame m #[(.ref u0), (.ref u1), (.int (0 : Int32))] 3)) t := fun t k => castTop (ef_rmIB m u0 u1 (0 : Int32)) k
  obtain ⟨T1, X1, e1, st1⟩ := initO X0 hx hZ hown (own_g hw 17 rfl) (own_g hw 18 rfl) (own_g hw 19 rfl) e0 (g := (mkF m 1 #[rv u0, rv u1, iv (0 : Int32)] [(.ref u0)])) rfl (by rw [hml]; rfl) rfl (hb hby d33_1) (by decide) (W := 0) (by show 2 * 0 + _ ≤ _; exact Nat.le_of_eq rfl) (by decide)
  obtain ⟨T2, h2, X2, e2, W2, st2⟩ := putF X1 hx hZ hown (host := "") (Or.inl (own_g hw 26 rfl)) Via.refl e1 P_F_u0_String_value P_E_u0 (Or.inr ⟨(own_g hw 22 rfl), rfl, hnm⟩) (own_g hw 7 rfl) (ty := (.array .byte)) (by decide) rfl rfl (g := (mkF m 6 #[rv u0, rv u1, iv (0 : Int32)] [(.ref u1), (.ref u0)])) rfl rfl (hb hby d33_6)
  have f2_ : Fld Z h2 u0 "java/lang/String" "value" "[B" (.ref u1) := P_F_u0_String_value.same W2
  have N3 := Fr.snoc X2 N0 g_u0
  have K4 : Keep h0 h2 [u0] := (Keep.refl h0 [u0]).wr W2 (Or.inl (List.mem_of_getElem? (i := 0) rfl))
  have f5 := (P_E_u0.wr W2)
  have f6 := (P_F_u0_String_coder.other W2 (Or.inr (slot_ne (Or.inr (own_g hw 23 rfl)) (Or.inr (own_g hw 22 rfl)) (by decide) (t := .byte) (t' := (.array .byte)) (by decide) (by decide))))
  obtain ⟨T7, h7, X7, e7, W7, st7⟩ := putFN X2 hx hZ hown (own_g hw 27 rfl) Via.refl e2 f6 f5 (Or.inr ⟨(own_g hw 23 rfl), rfl, hnm⟩) (own_g hw 7 rfl) (ty := .byte) (v' := (.int (0 : Int32))) (by decide) rfl rfl (g := (mkF m 11 #[rv u0, rv u1, iv (0 : Int32)] [(.int (0 : Int32)), (.ref u0)])) rfl rfl (hb hby d33_11)
  have f7_ : Fld Z h7 u0 "java/lang/String" "coder" "B" (.int (0 : Int32)) := f6.same W7
  have N8 := Fr.snoc X7 N3 g_u0
  have K9 : Keep h0 h7 [u0] := K4.wr W7 (Or.inl (List.mem_of_getElem? (i := 0) rfl))
  obtain ⟨fs, hr, hrun, hended, hW, hsame⟩ := X7.leave (v := none) (fun _ => rfl)
  have f10 := (f5.wr W7)
  have f11 := (f2_.other W7 (Or.inr (slot_ne (Or.inr (own_g hw 22 rfl)) (Or.inr (own_g hw 23 rfl)) (by decide) (t := (.array .byte)) (t' := .byte) (by decide) (by decide))))
  refine ⟨_, _, pre0 _ ?_, hrun, hended, _, _, rfl, ?_, ⟨_, rfl⟩, hW, hsame.mono (by decide) (by decide)⟩
  · refine XS.aloadN X0.here hx rfl (hb hby d33_0) rfl rfl ?_
    show Steps _ _ _ (s₁.setTop (mkF m 1 #[rv u0, rv u1, iv (0 : Int32)] [(.ref u0)])) _
    refine st1 _ ?_
    refine XS.aloadN X1.here hx rfl (hb hby d33_4) rfl rfl ?_
    refine XS.aloadN X1.here hx rfl (hb hby d33_5) rfl rfl ?_
    refine st2 _ ?_
    refine XS.aloadN X2.here hx rfl (hb hby d33_9) rfl rfl ?_
    refine XS.iloadN X2.here hx rfl (hb hby d33_10) rfl ?_
    refine st7 _ ?_
    show Steps _ _ _ (T7.setTop (mkF m 14 #[rv u0, rv u1, iv (0 : Int32)] [])) _
    exact X7.returnOut hx Bd.returns (hb hby d33_14) hr
  · show Q_rmIB Z u0 u1 h0 n0 _ T7.heap _
    rw [e7]
    exact ⟨rfl, N8, K9, f10, f11, f7_⟩

theorem ef_rmRB (m : MethodId) (x0 : Addr) (x1 : Int32) (x2 : Int32) : entryFrame m #[(.ref x0), (.int x1), (.int x2)] 5 = mkF m 0 #[rv x0, iv x1, iv x2, .unset, .unset] [] := by first | (simp [entryFrame, mkF, argsToLocals, Value.category]; done) | rfl
def Q_rmRB (Z : State) (u0 : Addr) (p1 : Int32) (p2 : Int32) (kt : ClassId) (z : Int32) (vs : List Value) (h0 : Heap) (n0 : Nat) (v : Option Value) (h : Heap) (L : List Loc) : Prop := ∃ (yv : Addr), ∃ (ky : ClassId), ∃ (zl : Int32), ∃ (ys : List Value), (v = (some (.ref yv)) ∧ Fr n0 L ∧ Keep h0 h [] ∧ h0.size ≤ yv ∧ Arv Z h yv ky .byte zl ys (.int 0) ∧ ¬ (4 : Int32) < zl)
set_option maxRecDepth 65536 in
set_option maxHeartbeats 40000000 in
theorem rmRB (l : Launch) (Z : State) (a0 : Array Value) (hw : ∀ d ∈ tables_1, d.before a0 Z = true) (ws : List Jvm.Cond) (u0 : Addr) (p1 : Int32) (p2 : Int32) (kt : ClassId) (z : Int32) (vs : List Value) (h0 : Heap) (n0 : Nat) (Z0 : n0 ≤ h0.size) (P_G_u0 : Arv Z h0 u0 kt .byte z vs (.int 0)) (hz4 : ¬ (4 : Int32) < z) (ra : ¬ p1 < 0) (rb : p1 < p2) (rc : ¬ z < p2) :
    own_MF l own_y31 (Jvm.Cond.code own_y31 jdk_65_method_133_code 5 (some (.array .byte))) ws ({ frames := 1, cells := 1, slots := 4, locals := 18 } : Room) #[(.ref u0), (.int p1), (.int p2)] Z h0 (Q_rmRB Z u0 p1 p2 kt z vs h0 n0) := by
  refine MetFree.of_bodySF (plainFor_of_name pn_31) hisR ?_
  intro p e s m args below meth c s₁ Bd hml0 hP hK
  obtain ⟨rfl, hZ, hh⟩ := hP
  have hx := Bd.exec
  have hby := Bd.bytes
  have hml : c.maxLocals = 5 := hml0
  have hown : s.vm.findClass "java/util/Arrays" = some m.cls := findClass_of_methodNamed Bd.named
  have hnm := (name_of_methodNamed Bd.named Bd.method).1
  have X0 : Stand p l e ({ frames := 1, cells := 1, slots := 4, locals := 18 } : Room) s m #[(.ref u0), (.int p1), (.int p2)] below meth c s₁ [] 0 0 := Stand.of_body Bd
  have e0 : s₁.heap = h0 := by rw [← hh, Bd.state]; rfl
  have N0 := Fr.nil n0
  have pre0 : ∀ t, Steps p.tables e below (s₁.setTop (mkF m 0 #[rv u0, iv p1, iv p2, .unset, .unset] [])) t → Steps p.tables e below (s₁.setTop (entryFrame m #[(.ref u0), (.int p1), (.int p2)] 5)) t := fun t k => castTop (ef_rmRB m u0 p1 p2) k
  obtain ⟨_, _, ⟨T1, L1, k1, n1⟩, -, X1, ⟨Lc1, hQ1, l1, y1, z1⟩, st1⟩ := Jvm.LawKit.callS X0 hx (y := own_y12) hown (mvT hZ (own_g hw 178 rfl)) (mvT hZ (own_g hw 179 rfl)) (mvT hZ (own_g hw 173 rfl)) (mvT hZ (own_g hw 180 rfl)) (by decide) (backOf (W := 0) (rmCk l Z a0 hw [] p1 p2 h0 n0 Z0 (own_nlt rb)) hZ (own_g hw 180 rfl) (own_g hw 173 rfl) (by decide) (by decide)) (g := (mkF m 2 #[rv u0, iv p1, iv p2, .unset, .unset] [(.int p2), (.int p1)])) rfl (by rw [hml]; rfl) (argsL := [(.int p1), (.int p2)]) (rest := []) (lenOf pd__II_V rfl) rfl (by show 2 * 0 + _ ≤ _; exact Nat.le_of_eq rfl) (hb hby d31_2) (fun _ _ => ⟨rfl, e0, (by decide : 0 + 0 ≤ _), (by decide : 0 + 0 ≤ _)⟩)
  dsimp only [Pt.U, Pt.locs, Pt.cells, Pt.slots] at X1 l1 y1 z1 st1 hQ1
  subst l1 y1 z1
  obtain ⟨rfl, N1q, e1⟩ := hQ1
  have N1 := Fr.app N0 N1q
  obtain ⟨T2, h2, k2, X2, e2, E2, A2, Q2, st2⟩ := newPE X1 hx hZ (own_g hw 21 rfl) e1 (g := (mkF m 10 #[rv u0, iv p1, iv p2, iv (p2 - p1), .unset] [(.int (p2 - p1))])) rfl (hb hby d31_10) rfl (own_r1 ra rb rc hz4).2.1 (cap := 4) (own_r1 ra rb rc hz4).2.2.1 (by decide) (by decide) (by decide) (ad := "[B") rfl
  obtain ⟨b2, g2⟩ : ∃ z, z = h0.size := ⟨_, rfl⟩
  rw [← g2] at A2 st2 Q2
  have ne3 : u0 ≠ b2 := Nat.ne_of_lt (Nat.lt_of_lt_of_le P_G_u0.lt (Nat.le_of_eq g2.symm))
  have o2 : n0 ≤ b2 := Nat.le_trans Z0 (Nat.le_of_eq g2.symm)
  have z2 : h0.size ≤ b2 := Nat.le_trans (Keep.refl h0 []).1 (Nat.le_of_eq g2.symm)
  have K2 : Keep h0 h2 [] := (Keep.refl h0 []).ext E2
  have V2 : Arv Z h2 b2 k2 .byte (p2 - p1) (List.replicate 4 (.int 0)) (.int 0) := (Arv.new A2 (own_r1 ra rb rc hz4).2.1).pad (pad_rep [] (.int 0) 4)
  have f4 := (P_G_u0.ext E2)
  obtain ⟨cl5, Ar5, qq5, S5, N5_, H5, G5⟩ := id f4
  have f6 := (Nat.le_trans Z0 E2.1)
  obtain ⟨_, _, ⟨T7, L7, k7, n7⟩, -, X7, ⟨Lc7, hQ7, l7, y7, z7⟩, st7⟩ := Jvm.LawKit.callS X2 hx (y := own_y10) hown (mvT hZ (own_g hw 181 rfl)) (mvT hZ (own_g hw 111 rfl)) (mvT hZ (own_g hw 108 rfl)) (mvT hZ (own_g hw 112 rfl)) (by decide) (backOf (W := 4) (rmMi l Z a0 hw [] (z - p1) (p2 - p1) h2 n0 f6 ) hZ (own_g hw 112 rfl) (own_g hw 108 rfl) (by decide) (by decide)) (g := (mkF m 24 #[rv u0, iv p1, iv p2, iv (p2 - p1), rv b2] [(.int (p2 - p1)), (.int (z - p1)), (.int (0 : Int32)), (.ref b2), (.int p1), (.ref u0)])) rfl (by rw [hml]; rfl) (argsL := [(.int (z - p1)), (.int (p2 - p1))]) (rest := [(.int (0 : Int32)), (.ref b2), (.int p1), (.ref u0)]) (lenOf pd__II_I rfl) rfl (by show 2 * 0 + _ ≤ _; exact Nat.le_of_eq rfl) (hb hby d31_24) (fun _ _ => ⟨rfl, e2, (by decide : 1 + 0 ≤ _), (by decide : 4 + 0 ≤ _)⟩)
  dsimp only [Pt.U, Pt.locs, Pt.cells, Pt.slots] at X7 l7 y7 z7 st7 hQ7
  subst l7 y7 z7
  obtain ⟨rfl, N7q, e7⟩ := hQ7
  have N7 := Fr.app N1 N7q
  obtain ⟨T8, h8, L8, X8, e8, N8, K8, V8_, st8⟩ := cpA X7 hx hZ hown (own_g hw 182 rfl) (own_g hw 185 rfl) (own_g hw 183 rfl) (own_g hw 184 rfl) e7 f4 V2  (Or.inl ⟨rfl, rfl⟩) (sp := p1) (dp := (0 : Int32)) (nn := (own_min (z - p1) (p2 - p1))) ra (by decide) (own_r2 ra rb rc hz4).1 (own_r2 ra rb rc hz4).2.1 (own_r2 ra rb rc hz4).2.2.1 rfl (own_r2 ra rb rc hz4).2.2.2 N7 o2 (g := (mkF m 27 #[rv u0, iv p1, iv p2, iv (p2 - p1), rv b2] [(.int (own_min (z - p1) (p2 - p1))), (.int (0 : Int32)), (.ref b2), (.int p1), (.ref u0)])) rfl (by rw [hml]; rfl) rfl (hb hby d31_27) (by decide) (W := 0) (by show 2 * 0 + _ ≤ _; exact Nat.le_of_eq rfl) (by decide)
  have KK8 : Keep h0 h8 [] := Keep.trans K2 K8 (allS (Or.inr z2) all0)
  obtain ⟨vx8, V8⟩ : ∃ vx, Arv Z h8 b2 k2 .byte (p2 - p1) vx (.int 0) := ⟨_, V8_⟩
  obtain ⟨fs, hr, hrun, hended, hW, hsame⟩ := X8.leave (v := some (.ref b2)) (fun h => by rw [Bd.returns] at h; cases h)
  refine ⟨_, _, pre0 _ ?_, hrun, hended, _, _, rfl, ?_, ⟨_, rfl⟩, hW, hsame.mono (by decide) (by decide)⟩
  · refine XS.iloadN X0.here hx rfl (hb hby d31_0) rfl ?_
    refine XS.iloadN X0.here hx rfl (hb hby d31_1) rfl ?_
    show Steps _ _ _ (s₁.setTop (mkF m 2 #[rv u0, iv p1, iv p2, .unset, .unset] [(.int p2), (.int p1)])) _
    refine st1 _ ?_
    refine XS.iloadN X1.here hx rfl (hb hby d31_5) rfl ?_
    refine XS.iloadN X1.here hx rfl (hb hby d31_6) rfl ?_
    refine XS.isub X1.here hx rfl (hb hby d31_7) rfl ?_
    refine XS.istoreN X1.here hx rfl (hb hby d31_8) rfl (l' := #[rv u0, iv p1, iv p2, iv (p2 - p1), .unset]) rfl ?_
    refine XS.iloadN X1.here hx rfl (hb hby d31_9) rfl ?_
    refine st2 _ ?_
    refine XS.astore X2.here hx rfl (hb hby d31_12) rfl rfl (l' := #[rv u0, iv p1, iv p2, iv (p2 - p1), rv b2]) rfl ?_
    refine XS.aloadN X2.here hx rfl (hb hby d31_14) rfl rfl ?_
    refine XS.iloadN X2.here hx rfl (hb hby d31_15) rfl ?_
    refine XS.aload X2.here hx rfl (hb hby d31_16) rfl rfl ?_
    refine XS.iconst X2.here hx rfl (hb hby d31_18) ?_
    refine XS.aloadN X2.here hx rfl (hb hby d31_19) rfl rfl ?_
    refine X2.arraylength hx (by rw [e2]; exact Ar5.1) (State.isArrayOf_alike hZ.alike Ar5.2.1) (g := (mkF m 20 #[rv u0, iv p1, iv p2, iv (p2 - p1), rv b2] [(.ref u0), (.int (0 : Int32)), (.ref b2), (.int p1), (.ref u0)])) rfl rfl (hb hby d31_20) _ ?_
    rw [len_of S5 N5_]
    refine XS.iloadN X2.here hx rfl (hb hby d31_21) rfl ?_
    refine XS.isub X2.here hx rfl (hb hby d31_22) rfl ?_
    refine XS.iloadN X2.here hx rfl (hb hby d31_23) rfl ?_
    show Steps _ _ _ (T2.setTop (mkF m 24 #[rv u0, iv p1, iv p2, iv (p2 - p1), rv b2] [(.int (p2 - p1)), (.int (z - p1)), (.int (0 : Int32)), (.ref b2), (.int p1), (.ref u0)])) _
    refine st7 _ ?_
    show Steps _ _ _ (T7.setTop (mkF m 27 #[rv u0, iv p1, iv p2, iv (p2 - p1), rv b2] [(.int (own_min (z - p1) (p2 - p1))), (.int (0 : Int32)), (.ref b2), (.int p1), (.ref u0)])) _
    refine st8 _ ?_
    refine XS.aload X8.here hx rfl (hb hby d31_30) rfl rfl ?_
    show Steps _ _ _ (T8.setTop (mkF m 32 #[rv u0, iv p1, iv p2, iv (p2 - p1), rv b2] [(.ref b2)])) _
    exact retOut X8 hx Bd.returns rfl (Or.inr (Or.inr (Or.inr (Or.inr ⟨rfl, rfl, rfl⟩)))) (hb hby d31_32) hr
  · show Q_rmRB Z u0 p1 p2 kt z vs h0 n0 _ T8.heap _
    rw [e8]
    exact ⟨b2, k2, (p2 - p1), vx8, rfl, N8, KK8, z2, V8, (own_r1 ra rb rc hz4).1⟩

theorem ef_rmRA (m : MethodId) (x0 : Addr) (x1 : Int32) (x2 : Int32) : entryFrame m #[(.ref x0), (.int x1), (.int x2)] 3 = mkF m 0 #[rv x0, iv x1, iv x2] [] := by first | (simp [entryFrame, mkF, argsToLocals, Value.category]; done) | rfl
def Q_rmRA (Z : State) (u0 : Addr) (p1 : Int32) (p2 : Int32) (kt : ClassId) (z : Int32) (vs : List Value) (h0 : Heap) (n0 : Nat) (v : Option Value) (h : Heap) (L : List Loc) : Prop := ∃ (yv : Addr), ∃ (ky : ClassId), ∃ (zl : Int32), ∃ (ys : List Value), (v = (some (.ref yv)) ∧ Fr n0 L ∧ Keep h0 h [] ∧ h0.size ≤ yv ∧ Arv Z h yv ky .byte zl ys (.int 0) ∧ ¬ (4 : Int32) < zl)
set_option maxRecDepth 65536 in
set_option maxHeartbeats 40000000 in
theorem rmRA (l : Launch) (Z : State) (a0 : Array Value) (hw : ∀ d ∈ tables_1, d.before a0 Z = true) (ws : List Jvm.Cond) (u0 : Addr) (p1 : Int32) (p2 : Int32) (kt : ClassId) (z : Int32) (vs : List Value) (h0 : Heap) (n0 : Nat) (Z0 : n0 ≤ h0.size) (P_G_u0 : Arv Z h0 u0 kt .byte z vs (.int 0)) (hz4 : ¬ (4 : Int32) < z) (ra : ¬ p1 < 0) (rb : p1 < p2) (rc : ¬ z < p2) (rd : p1 = 0 → ¬ p2 = z) :
    own_MF l own_y32 (Jvm.Cond.code own_y32 jdk_65_method_132_code 3 (some (.array .byte))) ws ({ frames := 2, cells := 1, slots := 4, locals := 34 } : Room) #[(.ref u0), (.int p1), (.int p2)] Z h0 (Q_rmRA Z u0 p1 p2 kt z vs h0 n0) := by
  refine MetFree.of_bodySF (plainFor_of_name pn_30) hisR ?_
  intro p e s m args below meth c s₁ Bd hml0 hP hK
  obtain ⟨rfl, hZ, hh⟩ := hP
  have hx := Bd.exec
  have hby := Bd.bytes
  have hml : c.maxLocals = 3 := hml0
  have hown : s.vm.findClass "java/util/Arrays" = some m.cls := findClass_of_methodNamed Bd.named
  have hnm := (name_of_methodNamed Bd.named Bd.method).1
  have X0 : Stand p l e ({ frames := 2, cells := 1, slots := 4, locals := 34 } : Room) s m #[(.ref u0), (.int p1), (.int p2)] below meth c s₁ [] 0 0 := Stand.of_body Bd
  have e0 : s₁.heap = h0 := by rw [← hh, Bd.state]; rfl
  have N0 := Fr.nil n0
  have pre0 : ∀ t, Steps p.tables e below (s₁.setTop (mkF m 0 #[rv u0, iv p1, iv p2] [])) t → Steps p.tables e below (s₁.setTop (entryFrame m #[(.ref u0), (.int p1), (.int p2)] 3)) t := fun t k => castTop (ef_rmRA m u0 p1 p2) k
  have pre2 : ∀ t, Steps p.tables e below (s₁.setTop (mkF m 1 #[rv u0, iv p1, iv p2] [(.int p1)])) t → Steps p.tables e below (s₁.setTop (entryFrame m #[(.ref u0), (.int p1), (.int p2)] 3)) t := fun t kt => pre0 t (by
   refine XS.iloadN X0.here hx rfl (hb hby d30_0) rfl ?_
   exact kt)
  by_cases hc1_1 : p1 = (0 : Int32)
  · obtain ⟨cl3, Ar3, qq3, S3, N3_, H3, G3⟩ := id P_G_u0
    obtain ⟨_, _, ⟨T4, L4, k4, n4⟩, -, X4, ⟨Lc4, hQ4, l4, y4, z4⟩, st4⟩ := Jvm.LawKit.callS X0 hx (y := own_y31) hown (mvT hZ (own_g hw 175 rfl)) (mvT hZ (own_g hw 176 rfl)) (mvT hZ (own_g hw 173 rfl)) (mvT hZ (own_g hw 177 rfl)) (by decide) (backOf (W := 0) (rmRB l Z a0 hw [] u0 p1 p2 kt z vs h0 n0 Z0 P_G_u0 hz4 ra rb rc) hZ (own_g hw 177 rfl) (own_g hw 173 rfl) (by decide) (by decide)) (g := (mkF m 13 #[rv u0, iv p1, iv p2] [(.int p2), (.int p1), (.ref u0)])) rfl (by rw [hml]; rfl) (argsL := [(.ref u0), (.int p1), (.int p2)]) (rest := []) (lenOf pd___BII__B rfl) rfl (by show 2 * 0 + _ ≤ _; exact Nat.le_of_eq rfl) (hb hby d30_13) (fun _ _ => ⟨rfl, e0, (by decide : 0 + 1 ≤ _), (by decide : 0 + 4 ≤ _)⟩)
    dsimp only [Pt.U, Pt.locs, Pt.cells, Pt.slots] at X4 l4 y4 z4 st4 hQ4
    subst l4 y4 z4
    obtain ⟨yv_4, ky_4, zl_4, ys_4, rfl, N4q, K4, sx4_0, f5, f6⟩ := hQ4
    have oyv_4 : n0 ≤ yv_4 := Nat.le_trans Z0 sx4_0
    have zyv_4 : h0.size ≤ yv_4 := Nat.le_trans (Keep.refl h0 []).1 sx4_0
    have ne7 : u0 ≠ yv_4 := Nat.ne_of_lt (Nat.lt_of_lt_of_le P_G_u0.lt sx4_0)
    have KK4 : Keep h0 T4.heap [] := Keep.trans (Keep.refl h0 []) K4 all0
    have N4 := Fr.app N0 N4q
    obtain ⟨fs, hr, hrun, hended, hW, hsame⟩ := X4.leave (v := some (.ref yv_4)) (fun h => by rw [Bd.returns] at h; cases h)
    refine ⟨_, _, pre2 _ ?_, hrun, hended, _, _, rfl, ?_, ⟨_, rfl⟩, hW, hsame.mono (by decide) (by decide)⟩
    · refine XS.ifNo X0.here hx rfl (hb hby d30_1) rfl ((if0 _ _).trans (teq hc1_1).2) ?_
      refine XS.iloadN X0.here hx rfl (hb hby d30_4) rfl ?_
      refine XS.aloadN X0.here hx rfl (hb hby d30_5) rfl rfl ?_
      refine X0.arraylength hx (by rw [e0]; exact Ar3.1) (State.isArrayOf_alike hZ.alike Ar3.2.1) (g := (mkF m 6 #[rv u0, iv p1, iv p2] [(.ref u0), (.int p2)])) rfl rfl (hb hby d30_6) _ ?_
      rw [len_of S3 N3_]
      refine XS.icmpNo X0.here hx rfl (hb hby d30_7) rfl (feq (rd hc1_1)).1 ?_
      refine XS.aloadN X0.here hx rfl (hb hby d30_10) rfl rfl ?_
      refine XS.iloadN X0.here hx rfl (hb hby d30_11) rfl ?_
      refine XS.iloadN X0.here hx rfl (hb hby d30_12) rfl ?_
      show Steps _ _ _ (s₁.setTop (mkF m 13 #[rv u0, iv p1, iv p2] [(.int p2), (.int p1), (.ref u0)])) _
      refine st4 _ ?_
      show Steps _ _ _ (T4.setTop (mkF m 16 #[rv u0, iv p1, iv p2] [(.ref yv_4)])) _
      exact retOut X4 hx Bd.returns rfl (Or.inr (Or.inr (Or.inr (Or.inr ⟨rfl, rfl, rfl⟩)))) (hb hby d30_16) hr
    · show Q_rmRA Z u0 p1 p2 kt z vs h0 n0 _ T4.heap _
      exact ⟨yv_4, ky_4, zl_4, ys_4, rfl, N4, KK4, zyv_4, f5, f6⟩
  · obtain ⟨_, _, ⟨T8, L8, k8, n8⟩, -, X8, ⟨Lc8, hQ8, l8, y8, z8⟩, st8⟩ := Jvm.LawKit.callS X0 hx (y := own_y31) hown (mvT hZ (own_g hw 175 rfl)) (mvT hZ (own_g hw 176 rfl)) (mvT hZ (own_g hw 173 rfl)) (mvT hZ (own_g hw 177 rfl)) (by decide) (backOf (W := 0) (rmRB l Z a0 hw [] u0 p1 p2 kt z vs h0 n0 Z0 P_G_u0 hz4 ra rb rc) hZ (own_g hw 177 rfl) (own_g hw 173 rfl) (by decide) (by decide)) (g := (mkF m 13 #[rv u0, iv p1, iv p2] [(.int p2), (.int p1), (.ref u0)])) rfl (by rw [hml]; rfl) (argsL := [(.ref u0), (.int p1), (.int p2)]) (rest := []) (lenOf pd___BII__B rfl) rfl (by show 2 * 0 + _ ≤ _; exact Nat.le_of_eq rfl) (hb hby d30_13) (fun _ _ => ⟨rfl, e0, (by decide : 0 + 1 ≤ _), (by decide : 0 + 4 ≤ _)⟩)
    dsimp only [Pt.U, Pt.locs, Pt.cells, Pt.slots] at X8 l8 y8 z8 st8 hQ8
    subst l8 y8 z8
    obtain ⟨yv_8, ky_8, zl_8, ys_8, rfl, N8q, K8, sx8_0, f9, f10⟩ := hQ8
    have oyv_8 : n0 ≤ yv_8 := Nat.le_trans Z0 sx8_0
    have zyv_8 : h0.size ≤ yv_8 := Nat.le_trans (Keep.refl h0 []).1 sx8_0
    have ne11 : u0 ≠ yv_8 := Nat.ne_of_lt (Nat.lt_of_lt_of_le P_G_u0.lt sx8_0)
    have KK8 : Keep h0 T8.heap [] := Keep.trans (Keep.refl h0 []) K8 all0
    have N8 := Fr.app N0 N8q
    obtain ⟨fs, hr, hrun, hended, hW, hsame⟩ := X8.leave (v := some (.ref yv_8)) (fun h => by rw [Bd.returns] at h; cases h)
    refine ⟨_, _, pre2 _ ?_, hrun, hended, _, _, rfl, ?_, ⟨_, rfl⟩, hW, hsame.mono (by decide) (by decide)⟩
    · refine XS.ifYes X0.here hx rfl (pc0 := 1) (pc' := 10) rfl (hb hby d30_1) rfl ((if0 _ _).trans (feq hc1_1).2) (by decide) (by decide) ?_
      refine XS.aloadN X0.here hx rfl (hb hby d30_10) rfl rfl ?_
      refine XS.iloadN X0.here hx rfl (hb hby d30_11) rfl ?_
      refine XS.iloadN X0.here hx rfl (hb hby d30_12) rfl ?_
      show Steps _ _ _ (s₁.setTop (mkF m 13 #[rv u0, iv p1, iv p2] [(.int p2), (.int p1), (.ref u0)])) _
      refine st8 _ ?_
      show Steps _ _ _ (T8.setTop (mkF m 16 #[rv u0, iv p1, iv p2] [(.ref yv_8)])) _
      exact retOut X8 hx Bd.returns rfl (Or.inr (Or.inr (Or.inr (Or.inr ⟨rfl, rfl, rfl⟩)))) (hb hby d30_16) hr
    · show Q_rmRA Z u0 p1 p2 kt z vs h0 n0 _ T8.heap _
      exact ⟨yv_8, ky_8, zl_8, ys_8, rfl, N8, KK8, zyv_8, f9, f10⟩

theorem ef_rmNT1 (m : MethodId) (x0 : Addr) (x1 : Int32) (x2 : Int32) : entryFrame m #[(.ref x0), (.int x1), (.int x2)] 3 = mkF m 0 #[rv x0, iv x1, iv x2] [] := by first | (simp [entryFrame, mkF, argsToLocals, Value.category]; done) | rfl
def Q_rmNT1 (Z : State) (u0 : Addr) (p1 : Int32) (p2 : Int32) (kt : ClassId) (z : Int32) (vs : List Value) (h0 : Heap) (n0 : Nat) (v : Option Value) (h : Heap) (L : List Loc) : Prop := ∃ (sg : Addr), ∃ (yv : Addr), ∃ (ky : ClassId), ∃ (zl : Int32), ∃ (ys : List Value), (v = (some (.ref sg)) ∧ Fr n0 L ∧ Keep h0 h [] ∧ h0.size ≤ sg ∧ h0.size ≤ yv ∧ sg ≠ yv ∧ Exa Z h sg "java/lang/String" ∧ Fld Z h sg "java/lang/String" "value" "[B" (.ref yv) ∧ Fld Z h sg "java/lang/String" "coder" "B" (.int (0 : Int32)) ∧ Arv Z h yv ky .byte zl ys (.int 0) ∧ ¬ (4 : Int32) < zl)
set_option maxRecDepth 65536 in
set_option maxHeartbeats 40000000 in
theorem rmNT1 (l : Launch) (Z : State) (a0 : Array Value) (hw : ∀ d ∈ tables_1, d.before a0 Z = true) (ws : List Jvm.Cond) (u0 : Addr) (p1 : Int32) (p2 : Int32) (kt : ClassId) (z : Int32) (vs : List Value) (h0 : Heap) (n0 : Nat) (Z0 : n0 ≤ h0.size) (P_G_u0 : Arv Z h0 u0 kt .byte z vs (.int 0)) (hz4 : ¬ (4 : Int32) < z) (ra : ¬ p1 < 0) (rb : (0 : Int32) < p2) (rc : ¬ z < (p1 + p2)) (rd : p1 = 0 → ¬ p2 = z) (re : ¬ z < p1) (rg : ¬ z < p2) :
    own_MF l own_y33 (Jvm.Cond.code own_y33 jdk_43_method_47_code 3 (some (.object "java/lang/String"))) ws ({ frames := 3, cells := 2, slots := 8, locals := 50 } : Room) #[(.ref u0), (.int p1), (.int p2)] Z h0 (Q_rmNT1 Z u0 p1 p2 kt z vs h0 n0) := by
  refine MetFree.of_bodySF (plainFor_of_name pn_29) hisR ?_
  intro p e s m args below meth c s₁ Bd hml0 hP hK
  obtain ⟨rfl, hZ, hh⟩ := hP
  have hx := Bd.exec
  have hby := Bd.bytes
  have hml : c.maxLocals = 3 := hml0
  have hown : s.vm.findClass "java/lang/StringLatin1" = some m.cls := findClass_of_methodNamed Bd.named
  have hnm := (name_of_methodNamed Bd.named Bd.method).1
  have X0 : Stand p l e ({ frames := 3, cells := 2, slots := 8, locals := 50 } : Room) s m #[(.ref u0), (.int p1), (.int p2)] below meth c s₁ [] 0 0 := Stand.of_body Bd
  have e0 : s₁.heap = h0 := by rw [← hh, Bd.state]; rfl
  have N0 := Fr.nil n0
  have pre0 : ∀ t, Steps p.tables e below (s₁.setTop (mkF m 0 #[rv u0, iv p1, iv p2] [])) t → Steps p.tables e below (s₁.setTop (entryFrame m #[(.ref u0), (.int p1), (.int p2)] 3)) t := fun t k => castTop (ef_rmNT1 m u0 p1 p2) k
  obtain ⟨T1, h1, X1, e1, E1, A1, D1, U1, st1⟩ := newO X0 hx hZ hown (own_g hw 170 rfl) (own_g hw 7 rfl) (own_g hw 8 rfl) e0 (g := (mkF m 7 #[rv u0, iv p1, iv p2] [])) rfl (hb hby d29_7) (by decide) (by decide)
  obtain ⟨b1, g1⟩ : ∃ z, z = h0.size := ⟨_, rfl⟩
  rw [← g1] at A1 D1 U1 st1
  have ne2 : u0 ≠ b1 := Nat.ne_of_lt (Nat.lt_of_lt_of_le P_G_u0.lt (Nat.le_of_eq g1.symm))
  have o1 : n0 ≤ b1 := Nat.le_trans Z0 (Nat.le_of_eq g1.symm)
  have z1 : h0.size ≤ b1 := Nat.le_trans (Keep.refl h0 []).1 (Nat.le_of_eq g1.symm)
  have K1 : Keep h0 h1 [] := (Keep.refl h0 []).ext E1
  have f3 : Fld Z h1 b1 "java/lang/String" "value" "[B" .null := D1 (Or.inr (own_g hw 22 rfl)) (ty := (.array .byte)) (by decide)
  have f4 : Fld Z h1 b1 "java/lang/String" "coder" "B" (.int (0 : Int32)) := D1 (Or.inr (own_g hw 23 rfl)) (ty := .byte) (by decide)
  have f5 := (P_G_u0.ext E1)
  have f6 := (Nat.le_trans Z0 E1.1)
  obtain ⟨_, _, ⟨T7, L7, k7, n7⟩, -, X7, ⟨Lc7, hQ7, l7, y7, z7⟩, st7⟩ := Jvm.LawKit.callS X1 hx (y := own_y32) hown (mvT hZ (own_g hw 171 rfl)) (mvT hZ (own_g hw 172 rfl)) (mvT hZ (own_g hw 173 rfl)) (mvT hZ (own_g hw 174 rfl)) (by decide) (backOf (W := 2) (rmRA l Z a0 hw [] u0 p1 (p1 + p2) kt z vs h1 n0 f6 f5 hz4 ra (own_n3 ra rb rc re rg hz4).1 rc ((own_n3 ra rb rc re rg hz4).2 rd)) hZ (own_g hw 174 rfl) (own_g hw 173 rfl) (by decide) (by decide)) (g := (mkF m 16 #[rv u0, iv p1, iv p2] [(.int (p1 + p2)), (.int p1), (.ref u0), (.ref b1), (.ref b1)])) rfl (by rw [hml]; rfl) (argsL := [(.ref u0), (.int p1), (.int (p1 + p2))]) (rest := [(.ref b1), (.ref b1)]) (lenOf pd___BII__B rfl) rfl (by show 2 * 0 + _ ≤ _; exact Nat.le_of_eq rfl) (hb hby d29_16) (fun _ _ => ⟨rfl, e1, (by decide : 1 + 1 ≤ _), (by decide : 4 + 4 ≤ _)⟩)
  dsimp only [Pt.U, Pt.locs, Pt.cells, Pt.slots] at X7 l7 y7 z7 st7 hQ7
  subst l7 y7 z7
  obtain ⟨yv_7, ky_7, zl_7, ys_7, rfl, N7q, K7, sx7_0, f8, f9⟩ := hQ7
  have oyv_7 : n0 ≤ yv_7 := Nat.le_trans f6 sx7_0
  have zyv_7 : h0.size ≤ yv_7 := Nat.le_trans K1.1 sx7_0
  have ne10 : u0 ≠ yv_7 := Nat.ne_of_lt (Nat.lt_of_lt_of_le f5.lt sx7_0)
  have ne11 : b1 ≠ yv_7 := Nat.ne_of_lt (Nat.lt_of_lt_of_le A1.lt sx7_0)
  have KK7 : Keep h0 T7.heap [] := Keep.trans K1 K7 all0
  have N7 := Fr.app N0 N7q
  have f12 := (A1.keep K7)
  have f13 := (f3.keep K7 nin0)
  have f14 := (f4.keep K7 nin0)
  have f15 := (Nat.le_trans f6 K7.1)
  obtain ⟨_, _, ⟨T16, L16, k16, n16⟩, -, X16, ⟨Lc16, hQ16, l16, y16, z16⟩, st16⟩ := X7.specialBack hx (y := own_y30) rfl hown (mvT hZ (own_g hw 186 rfl)) (mvT hZ (own_g hw 187 rfl)) (mvT hZ (own_g hw 188 rfl)) (by decide) (backOf (W := 1) (rmIB l Z a0 hw [] b1 yv_7 T7.heap n0 f15 f12 f13 f14 o1) hZ (own_g hw 188 rfl) (own_g hw 8 rfl) (by decide) (by decide)) (g := (mkF m 20 #[rv u0, iv p1, iv p2] [(.int (0 : Int32)), (.ref yv_7), (.ref b1), (.ref b1)])) rfl (by rw [hml]; rfl) (Steps.refl _) (a := b1) (argsL := [(.ref yv_7), (.int (0 : Int32))]) (rest := [(.ref b1)]) (lenOf pd___BB_V rfl) rfl (by show 2 * 0 + _ ≤ _; exact Nat.le_of_eq rfl) (hb hby d29_20) (fun _ _ => ⟨rfl, rfl, (by decide : 2 + 0 ≤ _), (by decide : 8 + 0 ≤ _)⟩)
  dsimp only [Pt.U, Pt.locs, Pt.cells, Pt.slots] at X16 l16 y16 z16 st16 hQ16
  subst l16 y16 z16
  obtain ⟨rfl, N16q, K16, f17, f18, f19⟩ := hQ16
  have KK16 : Keep h0 T16.heap [] := Keep.trans KK7 K16 (allS (Or.inr z1) all0)
  have N16 := Fr.app N7 N16q
  obtain ⟨fs, hr, hrun, hended, hW, hsame⟩ := X16.leave (v := some (.ref b1)) (fun h => by rw [Bd.returns] at h; cases h)
  have f20 := (f8.keep K16 (ninS (Ne.symm ne11) nin0))
  refine ⟨_, _, pre0 _ ?_, hrun, hended, _, _, rfl, ?_, ⟨_, rfl⟩, hW, hsame.mono (by decide) (by decide)⟩
  · refine XS.iloadN X0.here hx rfl (hb hby d29_0) rfl ?_
    refine XS.ifYes X0.here hx rfl (pc0 := 1) (pc' := 7) rfl (hb hby d29_1) rfl ((if0 _ _).trans (feq (own_ne0 rb)).2) (by decide) (by decide) ?_
    refine st1 _ ?_
    refine XS.dup X1.here hx rfl (hb hby d29_10) rfl rfl ?_
    refine XS.aloadN X1.here hx rfl (hb hby d29_11) rfl rfl ?_
    refine XS.iloadN X1.here hx rfl (hb hby d29_12) rfl ?_
    refine XS.iloadN X1.here hx rfl (hb hby d29_13) rfl ?_
    refine XS.iloadN X1.here hx rfl (hb hby d29_14) rfl ?_
    refine XS.iadd X1.here hx rfl (hb hby d29_15) rfl ?_
    show Steps _ _ _ (T1.setTop (mkF m 16 #[rv u0, iv p1, iv p2] [(.int (p1 + p2)), (.int p1), (.ref u0), (.ref b1), (.ref b1)])) _
    refine st7 _ ?_
    refine XS.iconst X7.here hx rfl (hb hby d29_19) ?_
    show Steps _ _ _ (T7.setTop (mkF m 20 #[rv u0, iv p1, iv p2] [(.int (0 : Int32)), (.ref yv_7), (.ref b1), (.ref b1)])) _
    refine st16.trans ?_
    show Steps _ _ _ (T16.setTop (mkF m 23 #[rv u0, iv p1, iv p2] [(.ref b1)])) _
    exact retOut X16 hx Bd.returns rfl (Or.inr (Or.inr (Or.inr (Or.inr ⟨rfl, rfl, rfl⟩)))) (hb hby d29_23) hr
  · show Q_rmNT1 Z u0 p1 p2 kt z vs h0 n0 _ T16.heap _
    exact ⟨b1, yv_7, ky_7, zl_7, ys_7, rfl, N16, KK16, z1, zyv_7, ne11, f17, f18, f19, f20, f9⟩

theorem ef_rmNT0 (m : MethodId) (x0 : Addr) (x1 : Int32) (x2 : Int32) : entryFrame m #[(.ref x0), (.int x1), (.int x2)] 3 = mkF m 0 #[rv x0, iv x1, iv x2] [] := by first | (simp [entryFrame, mkF, argsToLocals, Value.category]; done) | rfl
def Q_rmNT0 (Z : State) (u0 : Addr) (p1 : Int32) (nm : Addr) (h0 : Heap) (n0 : Nat) (v : Option Value) (h : Heap) (L : List Loc) : Prop := ∃ (sg : Jvm.Addr), ∃ (yv : Jvm.Addr), ∃ (ky : ClassId), ∃ (zl : Int32), ∃ (ys : List Value), (v = (some (.ref sg)) ∧ Fr n0 L ∧ Keep h0 h [] ∧ Exa Z h sg "java/lang/String" ∧ Fld Z h sg "java/lang/String" "value" "[B" (.ref yv) ∧ Fld Z h sg "java/lang/String" "coder" "B" (.int (0 : Int32)) ∧ Arv Z h yv ky .byte zl ys (.int 0) ∧ ¬ (4 : Int32) < zl ∧ sg ≠ nm ∧ yv ≠ nm)
set_option maxRecDepth 65536 in
set_option maxHeartbeats 40000000 in
theorem rmNT0 (l : Launch) (Z : State) (a0 : Array Value) (hw : ∀ d ∈ tables_1, d.before a0 Z = true) (ws : List Jvm.Cond) (u0 : Addr) (p1 : Int32) (nm : Addr) (h0 : Heap) (n0 : Nat) (Z0 : n0 ≤ h0.size) (P_E_nm : Exa Z h0 nm "com/example/bundlewright/bundlewright/core/Name") :
    MetFree l own_y33 (head1 (Jvm.Cond.code own_y33 jdk_43_method_47_code 3 (some (.object "java/lang/String")) :: ws) ({ frames := 0, cells := 2, slots := 4, locals := 0 } : Room)) (fun a U => a = #[(.ref u0), (.int p1), (.int (0 : Int32))] ∧ Z.Warmed39 U.vm ∧ U.heap = h0 ∧ CHv Z own_EL U.vm h0) (fun _ _ _ _ _ => True) (fun _ U o U' => ∃ v L, o = .returned v ∧ Q_rmNT0 Z u0 p1 nm h0 n0 v U'.heap L ∧ CHr Z own_EL U.vm U.heap U'.vm U'.heap ∧ ReturnedEndW U o U' L ({ frames := 0, cells := 2, slots := 4, locals := 0 } : Room).cells ({ frames := 0, cells := 2, slots := 4, locals := 0 } : Room).slots) := by
  refine MetFree.of_bodySF (plainFor_of_name pn_29) hisR ?_
  intro p e s m args below meth c s₁ Bd hml0 hP hK
  obtain ⟨rfl, hZ, hh, hCH⟩ := hP
  have hx := Bd.exec
  have hby := Bd.bytes
  have hml : c.maxLocals = 3 := hml0
  have hown : s.vm.findClass "java/lang/StringLatin1" = some m.cls := findClass_of_methodNamed Bd.named
  have hnm := (name_of_methodNamed Bd.named Bd.method).1
  have X0 : Stand p l e ({ frames := 0, cells := 2, slots := 4, locals := 0 } : Room) s m #[(.ref u0), (.int p1), (.int (0 : Int32))] below meth c s₁ [] 0 0 := Stand.of_body Bd
  have e0 : s₁.heap = h0 := by rw [← hh, Bd.state]; rfl
  have N0 := Fr.nil n0
  have pre0 : ∀ t, Steps p.tables e below (s₁.setTop (mkF m 0 #[rv u0, iv p1, iv (0 : Int32)] [])) t → Steps p.tables e below (s₁.setTop (entryFrame m #[(.ref u0), (.int p1), (.int (0 : Int32))] 3)) t := fun t k => castTop (ef_rmNT0 m u0 p1 (0 : Int32)) k
  have hEL : EW Z a0 own_EL := own_hEL hw
  have wS : ∀ a ∈ Bundle.stringAtoms, a.before a0 Z = true := fun d hd => hw d ((by decide +kernel : ∀ d ∈ Bundle.stringAtoms, d ∈ tables_1) d hd)
  have CH0 : CHr Z own_EL s.vm h0 s.vm h0 := CHr.refl hCH
  have hS0 : s.Since s.vm h0.size := (State.WarmedH.refl s).since _
  have Y_nm : Safe Z own_EL s.vm h0 nm := Safe.exa hZ.alike P_E_nm (by decide) (by decide)
  have pre1 : ∀ t, Steps p.tables e below (s₁.setTop (mkF m 4 #[rv u0, iv p1, iv (0 : Int32)] [])) t → Steps p.tables e below (s₁.setTop (entryFrame m #[(.ref u0), (.int p1), (.int (0 : Int32))] 3)) t := fun t kt => pre0 t (by
   refine XS.iloadN X0.here hx rfl (hb hby d29_0) rfl ?_
   refine XS.ifNo X0.here hx rfl (hb hby d29_1) rfl ((if0 _ _).trans (teq (by decide : (0 : Int32) = (0 : Int32))).2) ?_
   exact kt)
  obtain ⟨a2, T2, h2, kk2, b2, kc2, X2, e2, E2, hS2, hk2, hZ2, hown2, Ea2, Ca2, Va2, Aa2, la2, lb2, CHq2, Lt2, nx2, st2⟩ := ldcCH (vs := []) (z := (0 : Int32)) (show Stand p l e ({ frames := 0, cells := 2, slots := 4, locals := 0 } : Room) (s.setVm s.vm) m _ below meth c _ _ _ _ from X0) hx hZ hown (own_g hw 195 rfl) wS e0 hS0 (Nat.le_refl h0.size) hEL (List.mem_of_getElem? (i := 4) rfl) CH0.1 ⟨by decide, rfl⟩ (by decide) rfl (g := (mkF m 4 #[rv u0, iv p1, iv (0 : Int32)] [])) rfl (hb hby d29_4) (n := 0) (by decide) (by decide) (by decide) (by decide)
  have K2 : Keep h0 h2 [] := (Keep.refl h0 []).ext E2
  have CH3 : CHr Z own_EL s.vm h0 T2.vm h2 := CH0.trans CHq2
  have Yr4 : Safe Z own_EL T2.vm h2 nm := CHr.safe CHq2 P_E_nm.lt Y_nm
  have Qb2 : Exa Z h2 b2 "[B" := own_litB hZ2.alike Aa2 (Classical.byContradiction fun S_ => (nx2 b2 S_).2 rfl)
  obtain ⟨fs, hr, hrun, hended, hW, hsame⟩ := X2.leave (v := some (.ref a2)) (fun h => by rw [Bd.returns] at h; cases h)
  have qE := hS2.ended (c := ({ frames := 0, cells := 2, slots := 4, locals := 0 } : Room).cells) (k := ({ frames := 0, cells := 2, slots := 4, locals := 0 } : Room).slots) hW (show _ ≤ T2.heap.size from (by rw [e2]; exact hk2)) (hsame.mono (by decide) (by decide))
  have qC : CHr Z own_EL s.vm s.heap T2.vm T2.heap := by rw [hh, e2]; exact CH3.trans (CHv.at (show Stand p l e ({ frames := 0, cells := 2, slots := 4, locals := 0 } : Room) (s.setVm T2.vm) m _ below meth c _ _ _ _ from X2) hZ2 hEL CH3.1)
  refine ⟨_, _, pre1 _ ?_, hrun, hended, _, _, rfl, ?_, qC, ⟨_, rfl⟩, qE.1, qE.2.1, qE.2.2⟩
  · refine st2 _ ?_
    show Steps _ _ _ (T2.setTop (mkF m 6 #[rv u0, iv p1, iv (0 : Int32)] [(.ref a2)])) _
    exact retOut X2 hx Bd.returns rfl (Or.inr (Or.inr (Or.inr (Or.inr ⟨rfl, rfl, rfl⟩)))) (hb hby d29_6) hr
  · show Q_rmNT0 Z u0 p1 nm h0 n0 _ T2.heap _
    rw [e2]
    exact ⟨a2, b2, kc2, (0 : Int32), [], rfl, N0, K2, Ea2, Va2, Ca2, Aa2, (by decide), ⟨(Ne.symm (nx2 nm Yr4).1), (Ne.symm (nx2 nm Yr4).2)⟩⟩

theorem ef_rmS21 (m : MethodId) (x0 : Addr) (x1 : Int32) (x2 : Int32) : entryFrame m #[(.ref x0), (.int x1), (.int x2)] 5 = mkF m 0 #[rv x0, iv x1, iv x2, .unset, .unset] [] := by first | (simp [entryFrame, mkF, argsToLocals, Value.category]; done) | rfl
def Q_rmS21 (Z : State) (u0 : Addr) (p1 : Int32) (p2 : Int32) (tv : Addr) (kt : ClassId) (z : Int32) (vs : List Value) (zC : Int32) (fv : Value) (h0 : Heap) (n0 : Nat) (v : Option Value) (h : Heap) (L : List Loc) : Prop := ∃ (sg : Addr), ∃ (yv : Addr), ∃ (ky : ClassId), ∃ (zl : Int32), ∃ (ys : List Value), (v = (some (.ref sg)) ∧ Fr n0 L ∧ Keep h0 h [] ∧ h0.size ≤ sg ∧ h0.size ≤ yv ∧ sg ≠ yv ∧ Exa Z h sg "java/lang/String" ∧ Fld Z h sg "java/lang/String" "value" "[B" (.ref yv) ∧ Fld Z h sg "java/lang/String" "coder" "B" (.int (0 : Int32)) ∧ Arv Z h yv ky .byte zl ys (.int 0) ∧ ¬ (4 : Int32) < zl)
set_option maxRecDepth 65536 in
set_option maxHeartbeats 40000000 in
theorem rmS21 (l : Launch) (Z : State) (a0 : Array Value) (hw : ∀ d ∈ tables_1, d.before a0 Z = true) (ws : List Jvm.Cond) (u0 : Addr) (p1 : Int32) (p2 : Int32) (tv : Addr) (kt : ClassId) (z : Int32) (vs : List Value) (zC : Int32) (fv : Value) (h0 : Heap) (n0 : Nat) (Z0 : n0 ≤ h0.size) (P_E_u0 : Exa Z h0 u0 "java/lang/String") (P_F_u0_String_value : Fld Z h0 u0 "java/lang/String" "value" "[B" (.ref tv)) (P_F_u0_String_coder : Fld Z h0 u0 "java/lang/String" "coder" "B" (.int (0 : Int32))) (P_G_tv : Arv Z h0 tv kt .byte z vs (.int 0)) (hz4 : ¬ (4 : Int32) < z) (P_S_String_COMPACT_STRINGS : Sta Z h0 "java/lang/String" "COMPACT_STRINGS" "Z" (.int zC)) (hz : ¬ (zC = (0 : Int32))) (P_S_Preconditions_SIOOBE_FORMATTER : Sta Z h0 "jdk/internal/util/Preconditions" "SIOOBE_FORMATTER" "Ljava/util/function/BiFunction;" fv) (hfv : (fv = .null ∨ ∃ a, fv = .ref a)) (ra : ¬ p1 < 0) (rb : p1 < p2) (rc : ¬ z < p2) (rd : p1 = 0 → ¬ p2 = z) :
    own_MF l own_y34 (Jvm.Cond.code own_y34 jdk_42_method_92_code 5 (some (.object "java/lang/String"))) ws ({ frames := 4, cells := 2, slots := 8, locals := 64 } : Room) #[(.ref u0), (.int p1), (.int p2)] Z h0 (Q_rmS21 Z u0 p1 p2 tv kt z vs zC fv h0 n0) := by
  refine MetFree.of_bodySF (plainFor_of_name pn_26) hisR ?_
  intro p e s m args below meth c s₁ Bd hml0 hP hK
  obtain ⟨rfl, hZ, hh⟩ := hP
  have hx := Bd.exec
  have hby := Bd.bytes
  have hml : c.maxLocals = 5 := hml0
  have hown : s.vm.findClass "java/lang/String" = some m.cls := findClass_of_methodNamed Bd.named
  have hnm := (name_of_methodNamed Bd.named Bd.method).1
  have X0 : Stand p l e ({ frames := 4, cells := 2, slots := 8, locals := 64 } : Room) s m #[(.ref u0), (.int p1), (.int p2)] below meth c s₁ [] 0 0 := Stand.of_body Bd
  have e0 : s₁.heap = h0 := by rw [← hh, Bd.state]; rfl
  have N0 := Fr.nil n0
  have pre0 : ∀ t, Steps p.tables e below (s₁.setTop (mkF m 0 #[rv u0, iv p1, iv p2, .unset, .unset] [])) t → Steps p.tables e below (s₁.setTop (entryFrame m #[(.ref u0), (.int p1), (.int p2)] 5)) t := fun t k => castTop (ef_rmS21 m u0 p1 p2) k
  obtain ⟨cq2, kq2, q2a, q2b, q2c⟩ := isOf hZ e0 P_E_u0
  obtain ⟨_, _, ⟨T1, L1, k1, n1⟩, -, X1, ⟨Lc1, hQ1, l1, y1, z1⟩, st1⟩ := X0.virtualBack hx (y := own_y8) (z := own_y8) hown (mvT hZ (own_g hw 94 rfl)) (mvT hZ (own_g hw 95 rfl)) (notFace_of_selects (args := #[]) (mvT hZ (own_g hw 97 rfl))) (mvT hZ (own_g hw 97 rfl)) (mvT hZ (own_g hw 96 rfl)) (by decide) (backOf (W := 0) (rmLe l Z a0 hw [] u0 tv kt z vs zC h0 n0 Z0 P_E_u0 P_F_u0_String_value P_F_u0_String_coder P_G_tv P_S_String_COMPACT_STRINGS hz) hZ (own_g hw 98 rfl) (own_g hw 8 rfl) (by decide) (by decide)) q2a q2c (g := (mkF m 1 #[rv u0, iv p1, iv p2, .unset, .unset] [(.ref u0)])) rfl (by rw [hml]; rfl) (Steps.refl _) (argsL := []) (rest := []) (lenOf pd___I rfl) rfl (by show 2 * 0 + _ ≤ _; exact Nat.le_of_eq rfl) (hb hby d26_1) (fun _ _ => ⟨rfl, e0, (by decide : 0 + 0 ≤ _), (by decide : 0 + 0 ≤ _)⟩)
  dsimp only [Pt.U, Pt.locs, Pt.cells, Pt.slots] at X1 l1 y1 z1 st1 hQ1
  subst l1 y1 z1
  obtain ⟨rfl, N1q, e1⟩ := hQ1
  have N1 := Fr.app N0 N1q
  obtain ⟨_, _, ⟨T3, L3, k3, n3⟩, -, X3, ⟨Lc3, hQ3, l3, y3, z3⟩, st3⟩ := Jvm.LawKit.callS X1 hx (y := own_y16) hown (mvT hZ (own_g hw 159 rfl)) (mvT hZ (own_g hw 160 rfl)) (mvT hZ (own_g hw 8 rfl)) (mvT hZ (own_g hw 161 rfl)) (by decide) (backOf (W := 0) (rmSB l Z a0 hw [] p1 p2 z fv h0 n0 Z0 P_S_Preconditions_SIOOBE_FORMATTER hfv ra (own_nlt rb) rc) hZ (own_g hw 161 rfl) (own_g hw 8 rfl) (by decide) (by decide)) (g := (mkF m 8 #[rv u0, iv p1, iv p2, iv z, .unset] [(.int z), (.int p2), (.int p1)])) rfl (by rw [hml]; rfl) (argsL := [(.int p1), (.int p2), (.int z)]) (rest := []) (lenOf pd__III_V rfl) rfl (by show 2 * 0 + _ ≤ _; exact Nat.le_of_eq rfl) (hb hby d26_8) (fun _ _ => ⟨rfl, e1, (by decide : 0 + 0 ≤ _), (by decide : 0 + 0 ≤ _)⟩)
  dsimp only [Pt.U, Pt.locs, Pt.cells, Pt.slots] at X3 l3 y3 z3 st3 hQ3
  subst l3 y3 z3
  obtain ⟨rfl, N3q, e3⟩ := hQ3
  have N3 := Fr.app N1 N3q
  have pre5 : ∀ t, Steps p.tables e below (T3.setTop (mkF m 12 #[rv u0, iv p1, iv p2, iv z, .unset] [(.int p1)])) t → Steps p.tables e below (s₁.setTop (entryFrame m #[(.ref u0), (.int p1), (.int p2)] 5)) t := fun t kt => pre0 t (by
   refine XS.aloadN X0.here hx rfl (hb hby d26_0) rfl rfl ?_
   show Steps _ _ _ (s₁.setTop (mkF m 1 #[rv u0, iv p1, iv p2, .unset, .unset] [(.ref u0)])) _
   refine st1.trans ?_
   refine XS.istoreN X1.here hx rfl (hb hby d26_4) rfl (l' := #[rv u0, iv p1, iv p2, iv z, .unset]) rfl ?_
   refine XS.iloadN X1.here hx rfl (hb hby d26_5) rfl ?_
   refine XS.iloadN X1.here hx rfl (hb hby d26_6) rfl ?_
   refine XS.iloadN X1.here hx rfl (hb hby d26_7) rfl ?_
   show Steps _ _ _ (T1.setTop (mkF m 8 #[rv u0, iv p1, iv p2, iv z, .unset] [(.int z), (.int p2), (.int p1)])) _
   refine st3 _ ?_
   refine XS.iloadN X3.here hx rfl (hb hby d26_11) rfl ?_
   exact kt)
  by_cases hc12_4 : p1 = (0 : Int32)
  · obtain ⟨cq7, kq7, q7a, q7b, q7c⟩ := isOf hZ e3 P_E_u0
    obtain ⟨_, _, ⟨T6, L6, k6, n6⟩, -, X6, ⟨Lc6, hQ6, l6, y6, z6⟩, st6⟩ := X3.virtualBack hx (y := own_y7) (z := own_y7) hown (mvT hZ (own_g hw 89 rfl)) (mvT hZ (own_g hw 90 rfl)) (notFace_of_selects (args := #[]) (mvT hZ (own_g hw 92 rfl))) (mvT hZ (own_g hw 92 rfl)) (mvT hZ (own_g hw 91 rfl)) (by decide) (backOf (W := 0) (rmLa l Z a0 hw [] u0 zC h0 n0 Z0 P_F_u0_String_coder P_S_String_COMPACT_STRINGS hz) hZ (own_g hw 93 rfl) (own_g hw 8 rfl) (by decide) (by decide)) q7a q7c (g := (mkF m 28 #[rv u0, iv p1, iv p2, iv z, iv (p2 - p1)] [(.ref u0)])) rfl (by rw [hml]; rfl) (Steps.refl _) (argsL := []) (rest := []) (lenOf pd___Z rfl) rfl (by show 2 * 0 + _ ≤ _; exact Nat.le_of_eq rfl) (hb hby d26_28) (fun _ _ => ⟨rfl, e3, (by decide : 0 + 0 ≤ _), (by decide : 0 + 0 ≤ _)⟩)
    dsimp only [Pt.U, Pt.locs, Pt.cells, Pt.slots] at X6 l6 y6 z6 st6 hQ6
    subst l6 y6 z6
    obtain ⟨rfl, N6q, e6⟩ := hQ6
    have N6 := Fr.app N3 N6q
    obtain ⟨T8, X8, e8, st8⟩ := getF X6 hx hZ hown (host := "") (Or.inl (own_g hw 26 rfl)) Via.refl e6 P_F_u0_String_value (g := (mkF m 35 #[rv u0, iv p1, iv p2, iv z, iv (p2 - p1)] [(.ref u0)])) rfl rfl (hb hby d26_35)
    obtain ⟨_, _, ⟨T9, L9, k9, n9⟩, -, X9, ⟨Lc9, hQ9, l9, y9, z9⟩, st9⟩ := Jvm.LawKit.callS X8 hx (y := own_y33) hown (mvT hZ (own_g hw 167 rfl)) (mvT hZ (own_g hw 168 rfl)) (mvT hZ (own_g hw 101 rfl)) (mvT hZ (own_g hw 169 rfl)) (by decide) (backOf (W := 0) (rmNT1 l Z a0 hw [] tv p1 (p2 - p1) kt z vs h0 n0 Z0 P_G_tv hz4 ra (own_s2 ra rb rc hz4).1 (own_s2 ra rb rc hz4).2.1 (own_s2d rd) (own_s2 ra rb rc hz4).2.2.1 (own_s2 ra rb rc hz4).2.2.2) hZ (own_g hw 169 rfl) (own_g hw 101 rfl) (by decide) (by decide)) (g := (mkF m 41 #[rv u0, iv p1, iv p2, iv z, iv (p2 - p1)] [(.int (p2 - p1)), (.int p1), (.ref tv)])) rfl (by rw [hml]; rfl) (argsL := [(.ref tv), (.int p1), (.int (p2 - p1))]) (rest := []) (lenOf pd___BII_Ljava_lang_String_ rfl) rfl (by show 2 * 0 + _ ≤ _; exact Nat.le_of_eq rfl) (hb hby d26_41) (fun _ _ => ⟨rfl, e8, (by decide : 0 + 2 ≤ _), (by decide : 0 + 8 ≤ _)⟩)
    dsimp only [Pt.U, Pt.locs, Pt.cells, Pt.slots] at X9 l9 y9 z9 st9 hQ9
    subst l9 y9 z9
    obtain ⟨sg_9, yv_9, ky_9, zl_9, ys_9, rfl, N9q, K9, sx9_0, sx9_1, px9_0, f10, f11, f12, f13, f14⟩ := hQ9
    have osg_9 : n0 ≤ sg_9 := Nat.le_trans Z0 sx9_0
    have zsg_9 : h0.size ≤ sg_9 := Nat.le_trans (Keep.refl h0 []).1 sx9_0
    have ne15 : u0 ≠ sg_9 := Nat.ne_of_lt (Nat.lt_of_lt_of_le P_E_u0.lt sx9_0)
    have ne16 : tv ≠ sg_9 := Nat.ne_of_lt (Nat.lt_of_lt_of_le P_G_tv.lt sx9_0)
    have oyv_9 : n0 ≤ yv_9 := Nat.le_trans Z0 sx9_1
    have zyv_9 : h0.size ≤ yv_9 := Nat.le_trans (Keep.refl h0 []).1 sx9_1
    have ne17 : u0 ≠ yv_9 := Nat.ne_of_lt (Nat.lt_of_lt_of_le P_E_u0.lt sx9_1)
    have ne18 : tv ≠ yv_9 := Nat.ne_of_lt (Nat.lt_of_lt_of_le P_G_tv.lt sx9_1)
    have KK9 : Keep h0 T9.heap [] := Keep.trans (Keep.refl h0 []) K9 all0
    have N9 := Fr.app N6 N9q
    obtain ⟨fs, hr, hrun, hended, hW, hsame⟩ := X9.leave (v := some (.ref sg_9)) (fun h => by rw [Bd.returns] at h; cases h)
    refine ⟨_, _, pre5 _ ?_, hrun, hended, _, _, rfl, ?_, ⟨_, rfl⟩, hW, hsame.mono (by decide) (by decide)⟩
    · refine XS.ifNo X3.here hx rfl (hb hby d26_12) rfl ((if0 _ _).trans (teq hc12_4).2) ?_
      refine XS.iloadN X3.here hx rfl (hb hby d26_15) rfl ?_
      refine XS.iloadN X3.here hx rfl (hb hby d26_16) rfl ?_
      refine XS.icmpYes X3.here hx rfl (pc0 := 17) (pc' := 22) rfl (hb hby d26_17) rfl (feq (rd hc12_4)).2 (by decide) (by decide) ?_
      refine XS.iloadN X3.here hx rfl (hb hby d26_22) rfl ?_
      refine XS.iloadN X3.here hx rfl (hb hby d26_23) rfl ?_
      refine XS.isub X3.here hx rfl (hb hby d26_24) rfl ?_
      refine XS.istore X3.here hx rfl (hb hby d26_25) rfl (l' := #[rv u0, iv p1, iv p2, iv z, iv (p2 - p1)]) rfl ?_
      refine XS.aloadN X3.here hx rfl (hb hby d26_27) rfl rfl ?_
      show Steps _ _ _ (T3.setTop (mkF m 28 #[rv u0, iv p1, iv p2, iv z, iv (p2 - p1)] [(.ref u0)])) _
      refine st6.trans ?_
      refine XS.ifNo X6.here hx rfl (hb hby d26_31) rfl ((if0 _ _).trans (feq (by decide : ¬ ((1 : Int32) = (0 : Int32)))).1) ?_
      refine XS.aloadN X6.here hx rfl (hb hby d26_34) rfl rfl ?_
      refine st8 _ ?_
      refine XS.iloadN X8.here hx rfl (hb hby d26_38) rfl ?_
      refine XS.iload X8.here hx rfl (hb hby d26_39) rfl ?_
      show Steps _ _ _ (T8.setTop (mkF m 41 #[rv u0, iv p1, iv p2, iv z, iv (p2 - p1)] [(.int (p2 - p1)), (.int p1), (.ref tv)])) _
      refine st9 _ ?_
      refine XS.goto X9.here hx rfl (pc0 := 44) (pc' := 57) rfl (hb hby d26_44) (by decide) (by decide) ?_
      show Steps _ _ _ (T9.setTop (mkF m 57 #[rv u0, iv p1, iv p2, iv z, iv (p2 - p1)] [(.ref sg_9)])) _
      exact retOut X9 hx Bd.returns rfl (Or.inr (Or.inr (Or.inr (Or.inr ⟨rfl, rfl, rfl⟩)))) (hb hby d26_57) hr
    · show Q_rmS21 Z u0 p1 p2 tv kt z vs zC fv h0 n0 _ T9.heap _
      exact ⟨sg_9, yv_9, ky_9, zl_9, ys_9, rfl, N9, KK9, zsg_9, zyv_9, px9_0, f10, f11, f12, f13, f14⟩
  · obtain ⟨cq20, kq20, q20a, q20b, q20c⟩ := isOf hZ e3 P_E_u0
    obtain ⟨_, _, ⟨T19, L19, k19, n19⟩, -, X19, ⟨Lc19, hQ19, l19, y19, z19⟩, st19⟩ := X3.virtualBack hx (y := own_y7) (z := own_y7) hown (mvT hZ (own_g hw 89 rfl)) (mvT hZ (own_g hw 90 rfl)) (notFace_of_selects (args := #[]) (mvT hZ (own_g hw 92 rfl))) (mvT hZ (own_g hw 92 rfl)) (mvT hZ (own_g hw 91 rfl)) (by decide) (backOf (W := 0) (rmLa l Z a0 hw [] u0 zC h0 n0 Z0 P_F_u0_String_coder P_S_String_COMPACT_STRINGS hz) hZ (own_g hw 93 rfl) (own_g hw 8 rfl) (by decide) (by decide)) q20a q20c (g := (mkF m 28 #[rv u0, iv p1, iv p2, iv z, iv (p2 - p1)] [(.ref u0)])) rfl (by rw [hml]; rfl) (Steps.refl _) (argsL := []) (rest := []) (lenOf pd___Z rfl) rfl (by show 2 * 0 + _ ≤ _; exact Nat.le_of_eq rfl) (hb hby d26_28) (fun _ _ => ⟨rfl, e3, (by decide : 0 + 0 ≤ _), (by decide : 0 + 0 ≤ _)⟩)
    dsimp only [Pt.U, Pt.locs, Pt.cells, Pt.slots] at X19 l19 y19 z19 st19 hQ19
    subst l19 y19 z19
    obtain ⟨rfl, N19q, e19⟩ := hQ19
    have N19 := Fr.app N3 N19q
    obtain ⟨T21, X21, e21, st21⟩ := getF X19 hx hZ hown (host := "") (Or.inl (own_g hw 26 rfl)) Via.refl e19 P_F_u0_String_value (g := (mkF m 35 #[rv u0, iv p1, iv p2, iv z, iv (p2 - p1)] [(.ref u0)])) rfl rfl (hb hby d26_35)
    obtain ⟨_, _, ⟨T22, L22, k22, n22⟩, -, X22, ⟨Lc22, hQ22, l22, y22, z22⟩, st22⟩ := Jvm.LawKit.callS X21 hx (y := own_y33) hown (mvT hZ (own_g hw 167 rfl)) (mvT hZ (own_g hw 168 rfl)) (mvT hZ (own_g hw 101 rfl)) (mvT hZ (own_g hw 169 rfl)) (by decide) (backOf (W := 0) (rmNT1 l Z a0 hw [] tv p1 (p2 - p1) kt z vs h0 n0 Z0 P_G_tv hz4 ra (own_s2 ra rb rc hz4).1 (own_s2 ra rb rc hz4).2.1 (own_s2d rd) (own_s2 ra rb rc hz4).2.2.1 (own_s2 ra rb rc hz4).2.2.2) hZ (own_g hw 169 rfl) (own_g hw 101 rfl) (by decide) (by decide)) (g := (mkF m 41 #[rv u0, iv p1, iv p2, iv z, iv (p2 - p1)] [(.int (p2 - p1)), (.int p1), (.ref tv)])) rfl (by rw [hml]; rfl) (argsL := [(.ref tv), (.int p1), (.int (p2 - p1))]) (rest := []) (lenOf pd___BII_Ljava_lang_String_ rfl) rfl (by show 2 * 0 + _ ≤ _; exact Nat.le_of_eq rfl) (hb hby d26_41) (fun _ _ => ⟨rfl, e21, (by decide : 0 + 2 ≤ _), (by decide : 0 + 8 ≤ _)⟩)
    dsimp only [Pt.U, Pt.locs, Pt.cells, Pt.slots] at X22 l22 y22 z22 st22 hQ22
    subst l22 y22 z22
    obtain ⟨sg_22, yv_22, ky_22, zl_22, ys_22, rfl, N22q, K22, sx22_0, sx22_1, px22_0, f23, f24, f25, f26, f27⟩ := hQ22
    have osg_22 : n0 ≤ sg_22 := Nat.le_trans Z0 sx22_0
    have zsg_22 : h0.size ≤ sg_22 := Nat.le_trans (Keep.refl h0 []).1 sx22_0
    have ne28 : u0 ≠ sg_22 := Nat.ne_of_lt (Nat.lt_of_lt_of_le P_E_u0.lt sx22_0)
    have ne29 : tv ≠ sg_22 := Nat.ne_of_lt (Nat.lt_of_lt_of_le P_G_tv.lt sx22_0)
    have oyv_22 : n0 ≤ yv_22 := Nat.le_trans Z0 sx22_1
    have zyv_22 : h0.size ≤ yv_22 := Nat.le_trans (Keep.refl h0 []).1 sx22_1
    have ne30 : u0 ≠ yv_22 := Nat.ne_of_lt (Nat.lt_of_lt_of_le P_E_u0.lt sx22_1)
    have ne31 : tv ≠ yv_22 := Nat.ne_of_lt (Nat.lt_of_lt_of_le P_G_tv.lt sx22_1)
    have KK22 : Keep h0 T22.heap [] := Keep.trans (Keep.refl h0 []) K22 all0
    have N22 := Fr.app N19 N22q
    obtain ⟨fs, hr, hrun, hended, hW, hsame⟩ := X22.leave (v := some (.ref sg_22)) (fun h => by rw [Bd.returns] at h; cases h)
    refine ⟨_, _, pre5 _ ?_, hrun, hended, _, _, rfl, ?_, ⟨_, rfl⟩, hW, hsame.mono (by decide) (by decide)⟩
    · refine XS.ifYes X3.here hx rfl (pc0 := 12) (pc' := 22) rfl (hb hby d26_12) rfl ((if0 _ _).trans (feq hc12_4).2) (by decide) (by decide) ?_
      refine XS.iloadN X3.here hx rfl (hb hby d26_22) rfl ?_
      show Steps _ _ _ (T3.setTop (mkF m 23 #[rv u0, iv p1, iv p2, iv z, .unset] [(.int p2)])) _
      refine XS.iloadN X3.here hx rfl (hb hby d26_23) rfl ?_
      refine XS.isub X3.here hx rfl (hb hby d26_24) rfl ?_
      refine XS.istore X3.here hx rfl (hb hby d26_25) rfl (l' := #[rv u0, iv p1, iv p2, iv z, iv (p2 - p1)]) rfl ?_
      refine XS.aloadN X3.here hx rfl (hb hby d26_27) rfl rfl ?_
      show Steps _ _ _ (T3.setTop (mkF m 28 #[rv u0, iv p1, iv p2, iv z, iv (p2 - p1)] [(.ref u0)])) _
      refine st19.trans ?_
      refine XS.ifNo X19.here hx rfl (hb hby d26_31) rfl ((if0 _ _).trans (feq (by decide : ¬ ((1 : Int32) = (0 : Int32)))).1) ?_
      refine XS.aloadN X19.here hx rfl (hb hby d26_34) rfl rfl ?_
      refine st21 _ ?_
      refine XS.iloadN X21.here hx rfl (hb hby d26_38) rfl ?_
      refine XS.iload X21.here hx rfl (hb hby d26_39) rfl ?_
      show Steps _ _ _ (T21.setTop (mkF m 41 #[rv u0, iv p1, iv p2, iv z, iv (p2 - p1)] [(.int (p2 - p1)), (.int p1), (.ref tv)])) _
      refine st22 _ ?_
      refine XS.goto X22.here hx rfl (pc0 := 44) (pc' := 57) rfl (hb hby d26_44) (by decide) (by decide) ?_
      show Steps _ _ _ (T22.setTop (mkF m 57 #[rv u0, iv p1, iv p2, iv z, iv (p2 - p1)] [(.ref sg_22)])) _
      exact retOut X22 hx Bd.returns rfl (Or.inr (Or.inr (Or.inr (Or.inr ⟨rfl, rfl, rfl⟩)))) (hb hby d26_57) hr
    · show Q_rmS21 Z u0 p1 p2 tv kt z vs zC fv h0 n0 _ T22.heap _
      exact ⟨sg_22, yv_22, ky_22, zl_22, ys_22, rfl, N22, KK22, zsg_22, zyv_22, px22_0, f23, f24, f25, f26, f27⟩

theorem ef_rmS20 (m : MethodId) (x0 : Addr) (x1 : Int32) (x2 : Int32) : entryFrame m #[(.ref x0), (.int x1), (.int x2)] 5 = mkF m 0 #[rv x0, iv x1, iv x2, .unset, .unset] [] := by first | (simp [entryFrame, mkF, argsToLocals, Value.category]; done) | rfl
def Q_rmS20 (Z : State) (u0 : Addr) (p1 : Int32) (tv : Addr) (kt : ClassId) (z : Int32) (vs : List Value) (zC : Int32) (fv : Value) (nm : Addr) (h0 : Heap) (n0 : Nat) (v : Option Value) (h : Heap) (L : List Loc) : Prop := ∃ (sg : Jvm.Addr), ∃ (yv : Jvm.Addr), ∃ (ky : ClassId), ∃ (zl : Int32), ∃ (ys : List Value), (v = (some (.ref sg)) ∧ Fr n0 L ∧ Keep h0 h [] ∧ Exa Z h sg "java/lang/String" ∧ Fld Z h sg "java/lang/String" "value" "[B" (.ref yv) ∧ Fld Z h sg "java/lang/String" "coder" "B" (.int (0 : Int32)) ∧ Arv Z h yv ky .byte zl ys (.int 0) ∧ ¬ (4 : Int32) < zl ∧ sg ≠ nm ∧ yv ≠ nm)
set_option maxRecDepth 65536 in
set_option maxHeartbeats 40000000 in
theorem rmS20 (l : Launch) (Z : State) (a0 : Array Value) (hw : ∀ d ∈ tables_1, d.before a0 Z = true) (ws : List Jvm.Cond) (u0 : Addr) (p1 : Int32) (tv : Addr) (kt : ClassId) (z : Int32) (vs : List Value) (zC : Int32) (fv : Value) (nm : Addr) (h0 : Heap) (n0 : Nat) (Z0 : n0 ≤ h0.size) (P_E_u0 : Exa Z h0 u0 "java/lang/String") (P_F_u0_String_value : Fld Z h0 u0 "java/lang/String" "value" "[B" (.ref tv)) (P_F_u0_String_coder : Fld Z h0 u0 "java/lang/String" "coder" "B" (.int (0 : Int32))) (P_G_tv : Arv Z h0 tv kt .byte z vs (.int 0)) (hz4 : ¬ (4 : Int32) < z) (P_S_String_COMPACT_STRINGS : Sta Z h0 "java/lang/String" "COMPACT_STRINGS" "Z" (.int zC)) (hz : ¬ (zC = (0 : Int32))) (P_S_Preconditions_SIOOBE_FORMATTER : Sta Z h0 "jdk/internal/util/Preconditions" "SIOOBE_FORMATTER" "Ljava/util/function/BiFunction;" fv) (hfv : (fv = .null ∨ ∃ a, fv = .ref a)) (ra : ¬ p1 < 0) (rc : ¬ z < p1) (rd : p1 = 0 → ¬ p1 = z) (P_E_nm : Exa Z h0 nm "com/example/bundlewright/bundlewright/core/Name") :
    MetFree l own_y34 (head1 (Jvm.Cond.code own_y34 jdk_42_method_92_code 5 (some (.object "java/lang/String")) :: ws) ({ frames := 2, cells := 2, slots := 4, locals := 29 } : Room)) (fun a U => a = #[(.ref u0), (.int p1), (.int p1)] ∧ Z.Warmed39 U.vm ∧ U.heap = h0 ∧ CHv Z own_EL U.vm h0) (fun _ _ _ _ _ => True) (fun _ U o U' => ∃ v L, o = .returned v ∧ Q_rmS20 Z u0 p1 tv kt z vs zC fv nm h0 n0 v U'.heap L ∧ CHr Z own_EL U.vm U.heap U'.vm U'.heap ∧ ReturnedEndW U o U' L ({ frames := 2, cells := 2, slots := 4, locals := 29 } : Room).cells ({ frames := 2, cells := 2, slots := 4, locals := 29 } : Room).slots) := by
  refine MetFree.of_bodySF (plainFor_of_name pn_26) hisR ?_
  intro p e s m args below meth c s₁ Bd hml0 hP hK
  obtain ⟨rfl, hZ, hh, hCH⟩ := hP
  have hx := Bd.exec
  have hby := Bd.bytes
  have hml : c.maxLocals = 5 := hml0
  have hown : s.vm.findClass "java/lang/String" = some m.cls := findClass_of_methodNamed Bd.named
  have hnm := (name_of_methodNamed Bd.named Bd.method).1
  have X0 : Stand p l e ({ frames := 2, cells := 2, slots := 4, locals := 29 } : Room) s m #[(.ref u0), (.int p1), (.int p1)] below meth c s₁ [] 0 0 := Stand.of_body Bd
  have e0 : s₁.heap = h0 := by rw [← hh, Bd.state]; rfl
  have N0 := Fr.nil n0
  have pre0 : ∀ t, Steps p.tables e below (s₁.setTop (mkF m 0 #[rv u0, iv p1, iv p1, .unset, .unset] [])) t → Steps p.tables e below (s₁.setTop (entryFrame m #[(.ref u0), (.int p1), (.int p1)] 5)) t := fun t k => castTop (ef_rmS20 m u0 p1 p1) k
  have hEL : EW Z a0 own_EL := own_hEL hw
  have wS : ∀ a ∈ Bundle.stringAtoms, a.before a0 Z = true := fun d hd => hw d ((by decide +kernel : ∀ d ∈ Bundle.stringAtoms, d ∈ tables_1) d hd)
  have CH0 : CHr Z own_EL s.vm h0 s.vm h0 := CHr.refl hCH
  have hS0 : s.Since s.vm h0.size := (State.WarmedH.refl s).since _
  have Y_nm : Safe Z own_EL s.vm h0 nm := Safe.exa hZ.alike P_E_nm (by decide) (by decide)
  have pre1 : ∀ t, Steps p.tables e below (s₁.setTop (mkF m 1 #[rv u0, iv p1, iv p1, .unset, .unset] [(.ref u0)])) t → Steps p.tables e below (s₁.setTop (entryFrame m #[(.ref u0), (.int p1), (.int p1)] 5)) t := fun t kt => pre0 t (by
   refine XS.aloadN X0.here hx rfl (hb hby d26_0) rfl rfl ?_
   exact kt)
  obtain ⟨cq3, kq3, q3a, q3b, q3c⟩ := isOf hZ e0 P_E_u0
  obtain ⟨_, _, ⟨T2, L2, k2, n2⟩, -, X2, ⟨Lc2, hQ2, l2, y2, z2⟩, st2⟩ := X0.virtualBack hx (y := own_y8) (z := own_y8) hown (mvT hZ (own_g hw 94 rfl)) (mvT hZ (own_g hw 95 rfl)) (notFace_of_selects (args := #[]) (mvT hZ (own_g hw 97 rfl))) (mvT hZ (own_g hw 97 rfl)) (mvT hZ (own_g hw 96 rfl)) (by decide) (backOf (W := 0) (rmLe l Z a0 hw [] u0 tv kt z vs zC h0 n0 Z0 P_E_u0 P_F_u0_String_value P_F_u0_String_coder P_G_tv P_S_String_COMPACT_STRINGS hz) hZ (own_g hw 98 rfl) (own_g hw 8 rfl) (by decide) (by decide)) q3a q3c (g := (mkF m 1 #[rv u0, iv p1, iv p1, .unset, .unset] [(.ref u0)])) rfl (by rw [hml]; rfl) (Steps.refl _) (argsL := []) (rest := []) (lenOf pd___I rfl) rfl (by show 2 * 0 + _ ≤ _; exact Nat.le_of_eq rfl) (hb hby d26_1) (fun _ _ => ⟨rfl, e0, (by decide : 0 + 0 ≤ _), (by decide : 0 + 0 ≤ _)⟩)
  dsimp only [Pt.U, Pt.locs, Pt.cells, Pt.slots] at X2 l2 y2 z2 st2 hQ2
  subst l2 y2 z2
  obtain ⟨rfl, N2q, e2⟩ := hQ2
  have N2 := Fr.app N0 N2q
  have pre4 : ∀ t, Steps p.tables e below (T2.setTop (mkF m 8 #[rv u0, iv p1, iv p1, iv z, .unset] [(.int z), (.int p1), (.int p1)])) t → Steps p.tables e below (s₁.setTop (entryFrame m #[(.ref u0), (.int p1), (.int p1)] 5)) t := fun t kt => pre1 t (by
   show Steps _ _ _ (s₁.setTop (mkF m 1 #[rv u0, iv p1, iv p1, .unset, .unset] [(.ref u0)])) _
   refine st2.trans ?_
   refine XS.istoreN X2.here hx rfl (hb hby d26_4) rfl (l' := #[rv u0, iv p1, iv p1, iv z, .unset]) rfl ?_
   refine XS.iloadN X2.here hx rfl (hb hby d26_5) rfl ?_
   refine XS.iloadN X2.here hx rfl (hb hby d26_6) rfl ?_
   refine XS.iloadN X2.here hx rfl (hb hby d26_7) rfl ?_
   exact kt)
  obtain ⟨_, _, ⟨T5, L5, k5, n5⟩, -, X5, ⟨Lc5, hQ5, l5, y5, z5⟩, st5⟩ := Jvm.LawKit.callS X2 hx (y := own_y16) hown (mvT hZ (own_g hw 159 rfl)) (mvT hZ (own_g hw 160 rfl)) (mvT hZ (own_g hw 8 rfl)) (mvT hZ (own_g hw 161 rfl)) (by decide) (backOf (W := 0) (rmSB l Z a0 hw [] p1 p1 z fv h0 n0 Z0 P_S_Preconditions_SIOOBE_FORMATTER hfv ra Int32.lt_irrefl rc) hZ (own_g hw 161 rfl) (own_g hw 8 rfl) (by decide) (by decide)) (g := (mkF m 8 #[rv u0, iv p1, iv p1, iv z, .unset] [(.int z), (.int p1), (.int p1)])) rfl (by rw [hml]; rfl) (argsL := [(.int p1), (.int p1), (.int z)]) (rest := []) (lenOf pd__III_V rfl) rfl (by show 2 * 0 + _ ≤ _; exact Nat.le_of_eq rfl) (hb hby d26_8) (fun _ _ => ⟨rfl, e2, (by decide : 0 + 0 ≤ _), (by decide : 0 + 0 ≤ _)⟩)
  dsimp only [Pt.U, Pt.locs, Pt.cells, Pt.slots] at X5 l5 y5 z5 st5 hQ5
  subst l5 y5 z5
  obtain ⟨rfl, N5q, e5⟩ := hQ5
  have N5 := Fr.app N2 N5q
  have pre7 : ∀ t, Steps p.tables e below (T5.setTop (mkF m 12 #[rv u0, iv p1, iv p1, iv z, .unset] [(.int p1)])) t → Steps p.tables e below (s₁.setTop (entryFrame m #[(.ref u0), (.int p1), (.int p1)] 5)) t := fun t kt => pre4 t (by
   show Steps _ _ _ (T2.setTop (mkF m 8 #[rv u0, iv p1, iv p1, iv z, .unset] [(.int z), (.int p1), (.int p1)])) _
   refine st5 _ ?_
   refine XS.iloadN X5.here hx rfl (hb hby d26_11) rfl ?_
   exact kt)
  by_cases hc12_6 : p1 = (0 : Int32)
  · have pre8 : ∀ t, Steps p.tables e below (T5.setTop (mkF m 27 #[rv u0, iv p1, iv p1, iv z, iv (p1 - p1)] [])) t → Steps p.tables e below (s₁.setTop (entryFrame m #[(.ref u0), (.int p1), (.int p1)] 5)) t := fun t kt => pre7 t (by
     refine XS.ifNo X5.here hx rfl (hb hby d26_12) rfl ((if0 _ _).trans (teq hc12_6).2) ?_
     refine XS.iloadN X5.here hx rfl (hb hby d26_15) rfl ?_
     refine XS.iloadN X5.here hx rfl (hb hby d26_16) rfl ?_
     refine XS.icmpYes X5.here hx rfl (pc0 := 17) (pc' := 22) rfl (hb hby d26_17) rfl (feq (rd hc12_6)).2 (by decide) (by decide) ?_
     refine XS.iloadN X5.here hx rfl (hb hby d26_22) rfl ?_
     refine XS.iloadN X5.here hx rfl (hb hby d26_23) rfl ?_
     refine XS.isub X5.here hx rfl (hb hby d26_24) rfl ?_
     refine XS.istore X5.here hx rfl (hb hby d26_25) rfl (l' := #[rv u0, iv p1, iv p1, iv z, iv (p1 - p1)]) rfl ?_
     exact kt)
    rw [own_sub0 p1] at pre8
    have pre9 : ∀ t, Steps p.tables e below (T5.setTop (mkF m 28 #[rv u0, iv p1, iv p1, iv z, iv (0 : Int32)] [(.ref u0)])) t → Steps p.tables e below (s₁.setTop (entryFrame m #[(.ref u0), (.int p1), (.int p1)] 5)) t := fun t kt => pre8 t (by
     refine XS.aloadN X5.here hx rfl (hb hby d26_27) rfl rfl ?_
     exact kt)
    obtain ⟨cq11, kq11, q11a, q11b, q11c⟩ := isOf hZ e5 P_E_u0
    obtain ⟨_, _, ⟨T10, L10, k10, n10⟩, -, X10, ⟨Lc10, hQ10, l10, y10, z10⟩, st10⟩ := X5.virtualBack hx (y := own_y7) (z := own_y7) hown (mvT hZ (own_g hw 89 rfl)) (mvT hZ (own_g hw 90 rfl)) (notFace_of_selects (args := #[]) (mvT hZ (own_g hw 92 rfl))) (mvT hZ (own_g hw 92 rfl)) (mvT hZ (own_g hw 91 rfl)) (by decide) (backOf (W := 0) (rmLa l Z a0 hw [] u0 zC h0 n0 Z0 P_F_u0_String_coder P_S_String_COMPACT_STRINGS hz) hZ (own_g hw 93 rfl) (own_g hw 8 rfl) (by decide) (by decide)) q11a q11c (g := (mkF m 28 #[rv u0, iv p1, iv p1, iv z, iv (0 : Int32)] [(.ref u0)])) rfl (by rw [hml]; rfl) (Steps.refl _) (argsL := []) (rest := []) (lenOf pd___Z rfl) rfl (by show 2 * 0 + _ ≤ _; exact Nat.le_of_eq rfl) (hb hby d26_28) (fun _ _ => ⟨rfl, e5, (by decide : 0 + 0 ≤ _), (by decide : 0 + 0 ≤ _)⟩)
    dsimp only [Pt.U, Pt.locs, Pt.cells, Pt.slots] at X10 l10 y10 z10 st10 hQ10
    subst l10 y10 z10
    obtain ⟨rfl, N10q, e10⟩ := hQ10
    have N10 := Fr.app N5 N10q
    obtain ⟨T12, X12, e12, st12⟩ := getF X10 hx hZ hown (host := "") (Or.inl (own_g hw 26 rfl)) Via.refl e10 P_F_u0_String_value (g := (mkF m 35 #[rv u0, iv p1, iv p1, iv z, iv (0 : Int32)] [(.ref u0)])) rfl rfl (hb hby d26_35)
    have pre13 : ∀ t, Steps p.tables e below (T12.setTop (mkF m 41 #[rv u0, iv p1, iv p1, iv z, iv (0 : Int32)] [(.int (0 : Int32)), (.int p1), (.ref tv)])) t → Steps p.tables e below (s₁.setTop (entryFrame m #[(.ref u0), (.int p1), (.int p1)] 5)) t := fun t kt => pre9 t (by
     show Steps _ _ _ (T5.setTop (mkF m 28 #[rv u0, iv p1, iv p1, iv z, iv (0 : Int32)] [(.ref u0)])) _
     refine st10.trans ?_
     refine XS.ifNo X10.here hx rfl (hb hby d26_31) rfl ((if0 _ _).trans (feq (by decide : ¬ ((1 : Int32) = (0 : Int32)))).1) ?_
     refine XS.aloadN X10.here hx rfl (hb hby d26_34) rfl rfl ?_
     refine st12 _ ?_
     refine XS.iloadN X12.here hx rfl (hb hby d26_38) rfl ?_
     refine XS.iload X12.here hx rfl (hb hby d26_39) rfl ?_
     exact kt)
    obtain ⟨_, _, ⟨T14, L14, k14, n14⟩, -, Xw14, hSw14, gr14, ⟨Lc14, hQ14, l14, y14, z14, CHq14⟩, st14⟩ := callSS X12 hx (y := own_y33) hown (mvT hZ (own_g hw 167 rfl)) (mvT hZ (own_g hw 168 rfl)) (mvT hZ (own_g hw 101 rfl)) (mvT hZ (own_g hw 169 rfl)) (by decide) (backOfSH (W := 0) (rmNT0 l Z a0 hw [] tv p1 nm h0 n0 Z0 P_E_nm) hZ (own_g hw 169 rfl) (own_g hw 101 rfl) (by decide) (by decide) hEL CH0.1) (g := (mkF m 41 #[rv u0, iv p1, iv p1, iv z, iv (0 : Int32)] [(.int (0 : Int32)), (.int p1), (.ref tv)])) rfl (by rw [hml]; rfl) (argsL := [(.ref tv), (.int p1), (.int (0 : Int32))]) (rest := []) (lenOf pd___BII_Ljava_lang_String_ rfl) rfl (by show 2 * 0 + _ ≤ _; exact Nat.le_of_eq rfl) (hb hby d26_41) (fun _ _ => ⟨rfl, e12, (by decide : 0 + 2 ≤ _), (by decide : 0 + 4 ≤ _)⟩)
    dsimp only [Pt.U, Pt.locs, Pt.cells, Pt.slots] at Xw14 hSw14 gr14 l14 y14 z14 st14 hQ14 CHq14
    subst l14 y14 z14
    obtain ⟨X14, hS14, hZ14, hown14⟩ := rebS hS0 (by rw [e12]; exact (Nat.le_refl h0.size)) Xw14 hSw14 gr14 hZ hown
    obtain ⟨sg_14, yv_14, ky_14, zl_14, ys_14, rfl, N14q, K14, f15, f16, f17, f18, f19, f20⟩ := hQ14
    have KK14 : Keep h0 T14.heap [] := Keep.trans (Keep.refl h0 []) K14 all0
    have CH21 : CHr Z own_EL s.vm h0 T14.vm T14.heap := CH0.trans CHq14
    have Yr22 : Safe Z own_EL T14.vm T14.heap nm := CHr.safe CHq14 P_E_nm.lt Y_nm
    have N14 := Fr.app N10 N14q
    obtain ⟨fs, hr, hrun, hended, hW, hsame⟩ := X14.leave (v := some (.ref sg_14)) (fun h => by rw [Bd.returns] at h; cases h)
    have qE := hS14.ended (c := ({ frames := 2, cells := 2, slots := 4, locals := 29 } : Room).cells) (k := ({ frames := 2, cells := 2, slots := 4, locals := 29 } : Room).slots) hW (show _ ≤ T14.heap.size from (Nat.le_refl _)) (hsame.mono (by decide) (by decide))
    have qC : CHr Z own_EL s.vm s.heap T14.vm T14.heap := by rw [hh]; exact CH21.trans (CHv.at (show Stand p l e ({ frames := 2, cells := 2, slots := 4, locals := 29 } : Room) (s.setVm T14.vm) m _ below meth c _ _ _ _ from X14) hZ14 hEL CH21.1)
    refine ⟨_, _, pre13 _ ?_, hrun, hended, _, _, rfl, ?_, qC, ⟨_, rfl⟩, qE.1, qE.2.1, qE.2.2⟩
    · show Steps _ _ _ (T12.setTop (mkF m 41 #[rv u0, iv p1, iv p1, iv z, iv (0 : Int32)] [(.int (0 : Int32)), (.int p1), (.ref tv)])) _
      refine st14.trans ?_
      refine XS.goto X14.here hx rfl (pc0 := 44) (pc' := 57) rfl (hb hby d26_44) (by decide) (by decide) ?_
      show Steps _ _ _ (T14.setTop (mkF m 57 #[rv u0, iv p1, iv p1, iv z, iv (0 : Int32)] [(.ref sg_14)])) _
      exact retOut X14 hx Bd.returns rfl (Or.inr (Or.inr (Or.inr (Or.inr ⟨rfl, rfl, rfl⟩)))) (hb hby d26_57) hr
    · show Q_rmS20 Z u0 p1 tv kt z vs zC fv nm h0 n0 _ T14.heap _
      exact ⟨sg_14, yv_14, ky_14, zl_14, ys_14, rfl, N14, KK14, f15, f16, f17, f18, f19, ⟨f20.1, f20.2⟩⟩
  · have pre23 : ∀ t, Steps p.tables e below (T5.setTop (mkF m 27 #[rv u0, iv p1, iv p1, iv z, iv (p1 - p1)] [])) t → Steps p.tables e below (s₁.setTop (entryFrame m #[(.ref u0), (.int p1), (.int p1)] 5)) t := fun t kt => pre7 t (by
     refine XS.ifYes X5.here hx rfl (pc0 := 12) (pc' := 22) rfl (hb hby d26_12) rfl ((if0 _ _).trans (feq hc12_6).2) (by decide) (by decide) ?_
     refine XS.iloadN X5.here hx rfl (hb hby d26_22) rfl ?_
     show Steps _ _ _ (T5.setTop (mkF m 23 #[rv u0, iv p1, iv p1, iv z, .unset] [(.int p1)])) _
     refine XS.iloadN X5.here hx rfl (hb hby d26_23) rfl ?_
     refine XS.isub X5.here hx rfl (hb hby d26_24) rfl ?_
     refine XS.istore X5.here hx rfl (hb hby d26_25) rfl (l' := #[rv u0, iv p1, iv p1, iv z, iv (p1 - p1)]) rfl ?_
     exact kt)
    rw [own_sub0 p1] at pre23
    have pre24 : ∀ t, Steps p.tables e below (T5.setTop (mkF m 28 #[rv u0, iv p1, iv p1, iv z, iv (0 : Int32)] [(.ref u0)])) t → Steps p.tables e below (s₁.setTop (entryFrame m #[(.ref u0), (.int p1), (.int p1)] 5)) t := fun t kt => pre23 t (by
     refine XS.aloadN X5.here hx rfl (hb hby d26_27) rfl rfl ?_
     exact kt)
    obtain ⟨cq26, kq26, q26a, q26b, q26c⟩ := isOf hZ e5 P_E_u0
    obtain ⟨_, _, ⟨T25, L25, k25, n25⟩, -, X25, ⟨Lc25, hQ25, l25, y25, z25⟩, st25⟩ := X5.virtualBack hx (y := own_y7) (z := own_y7) hown (mvT hZ (own_g hw 89 rfl)) (mvT hZ (own_g hw 90 rfl)) (notFace_of_selects (args := #[]) (mvT hZ (own_g hw 92 rfl))) (mvT hZ (own_g hw 92 rfl)) (mvT hZ (own_g hw 91 rfl)) (by decide) (backOf (W := 0) (rmLa l Z a0 hw [] u0 zC h0 n0 Z0 P_F_u0_String_coder P_S_String_COMPACT_STRINGS hz) hZ (own_g hw 93 rfl) (own_g hw 8 rfl) (by decide) (by decide)) q26a q26c (g := (mkF m 28 #[rv u0, iv p1, iv p1, iv z, iv (0 : Int32)] [(.ref u0)])) rfl (by rw [hml]; rfl) (Steps.refl _) (argsL := []) (rest := []) (lenOf pd___Z rfl) rfl (by show 2 * 0 + _ ≤ _; exact Nat.le_of_eq rfl) (hb hby d26_28) (fun _ _ => ⟨rfl, e5, (by decide : 0 + 0 ≤ _), (by decide : 0 + 0 ≤ _)⟩)
    dsimp only [Pt.U, Pt.locs, Pt.cells, Pt.slots] at X25 l25 y25 z25 st25 hQ25
    subst l25 y25 z25
    obtain ⟨rfl, N25q, e25⟩ := hQ25
    have N25 := Fr.app N5 N25q
    obtain ⟨T27, X27, e27, st27⟩ := getF X25 hx hZ hown (host := "") (Or.inl (own_g hw 26 rfl)) Via.refl e25 P_F_u0_String_value (g := (mkF m 35 #[rv u0, iv p1, iv p1, iv z, iv (0 : Int32)] [(.ref u0)])) rfl rfl (hb hby d26_35)
    have pre28 : ∀ t, Steps p.tables e below (T27.setTop (mkF m 41 #[rv u0, iv p1, iv p1, iv z, iv (0 : Int32)] [(.int (0 : Int32)), (.int p1), (.ref tv)])) t → Steps p.tables e below (s₁.setTop (entryFrame m #[(.ref u0), (.int p1), (.int p1)] 5)) t := fun t kt => pre24 t (by
     show Steps _ _ _ (T5.setTop (mkF m 28 #[rv u0, iv p1, iv p1, iv z, iv (0 : Int32)] [(.ref u0)])) _
     refine st25.trans ?_
     refine XS.ifNo X25.here hx rfl (hb hby d26_31) rfl ((if0 _ _).trans (feq (by decide : ¬ ((1 : Int32) = (0 : Int32)))).1) ?_
     refine XS.aloadN X25.here hx rfl (hb hby d26_34) rfl rfl ?_
     refine st27 _ ?_
     refine XS.iloadN X27.here hx rfl (hb hby d26_38) rfl ?_
     refine XS.iload X27.here hx rfl (hb hby d26_39) rfl ?_
     exact kt)
    obtain ⟨_, _, ⟨T29, L29, k29, n29⟩, -, Xw29, hSw29, gr29, ⟨Lc29, hQ29, l29, y29, z29, CHq29⟩, st29⟩ := callSS X27 hx (y := own_y33) hown (mvT hZ (own_g hw 167 rfl)) (mvT hZ (own_g hw 168 rfl)) (mvT hZ (own_g hw 101 rfl)) (mvT hZ (own_g hw 169 rfl)) (by decide) (backOfSH (W := 0) (rmNT0 l Z a0 hw [] tv p1 nm h0 n0 Z0 P_E_nm) hZ (own_g hw 169 rfl) (own_g hw 101 rfl) (by decide) (by decide) hEL CH0.1) (g := (mkF m 41 #[rv u0, iv p1, iv p1, iv z, iv (0 : Int32)] [(.int (0 : Int32)), (.int p1), (.ref tv)])) rfl (by rw [hml]; rfl) (argsL := [(.ref tv), (.int p1), (.int (0 : Int32))]) (rest := []) (lenOf pd___BII_Ljava_lang_String_ rfl) rfl (by show 2 * 0 + _ ≤ _; exact Nat.le_of_eq rfl) (hb hby d26_41) (fun _ _ => ⟨rfl, e27, (by decide : 0 + 2 ≤ _), (by decide : 0 + 4 ≤ _)⟩)
    dsimp only [Pt.U, Pt.locs, Pt.cells, Pt.slots] at Xw29 hSw29 gr29 l29 y29 z29 st29 hQ29 CHq29
    subst l29 y29 z29
    obtain ⟨X29, hS29, hZ29, hown29⟩ := rebS hS0 (by rw [e27]; exact (Nat.le_refl h0.size)) Xw29 hSw29 gr29 hZ hown
    obtain ⟨sg_29, yv_29, ky_29, zl_29, ys_29, rfl, N29q, K29, f30, f31, f32, f33, f34, f35⟩ := hQ29
    have KK29 : Keep h0 T29.heap [] := Keep.trans (Keep.refl h0 []) K29 all0
    have CH36 : CHr Z own_EL s.vm h0 T29.vm T29.heap := CH0.trans CHq29
    have Yr37 : Safe Z own_EL T29.vm T29.heap nm := CHr.safe CHq29 P_E_nm.lt Y_nm
    have N29 := Fr.app N25 N29q
    obtain ⟨fs, hr, hrun, hended, hW, hsame⟩ := X29.leave (v := some (.ref sg_29)) (fun h => by rw [Bd.returns] at h; cases h)
    have qE := hS29.ended (c := ({ frames := 2, cells := 2, slots := 4, locals := 29 } : Room).cells) (k := ({ frames := 2, cells := 2, slots := 4, locals := 29 } : Room).slots) hW (show _ ≤ T29.heap.size from (Nat.le_refl _)) (hsame.mono (by decide) (by decide))
    have qC : CHr Z own_EL s.vm s.heap T29.vm T29.heap := by rw [hh]; exact CH36.trans (CHv.at (show Stand p l e ({ frames := 2, cells := 2, slots := 4, locals := 29 } : Room) (s.setVm T29.vm) m _ below meth c _ _ _ _ from X29) hZ29 hEL CH36.1)
    refine ⟨_, _, pre28 _ ?_, hrun, hended, _, _, rfl, ?_, qC, ⟨_, rfl⟩, qE.1, qE.2.1, qE.2.2⟩
    · show Steps _ _ _ (T27.setTop (mkF m 41 #[rv u0, iv p1, iv p1, iv z, iv (0 : Int32)] [(.int (0 : Int32)), (.int p1), (.ref tv)])) _
      refine st29.trans ?_
      refine XS.goto X29.here hx rfl (pc0 := 44) (pc' := 57) rfl (hb hby d26_44) (by decide) (by decide) ?_
      show Steps _ _ _ (T29.setTop (mkF m 57 #[rv u0, iv p1, iv p1, iv z, iv (0 : Int32)] [(.ref sg_29)])) _
      exact retOut X29 hx Bd.returns rfl (Or.inr (Or.inr (Or.inr (Or.inr ⟨rfl, rfl, rfl⟩)))) (hb hby d26_57) hr
    · show Q_rmS20 Z u0 p1 tv kt z vs zC fv nm h0 n0 _ T29.heap _
      exact ⟨sg_29, yv_29, ky_29, zl_29, ys_29, rfl, N29, KK29, f30, f31, f32, f33, f34, ⟨f35.1, f35.2⟩⟩

theorem ef_rmS11 (m : MethodId) (x0 : Addr) (x1 : Int32) : entryFrame m #[(.ref x0), (.int x1)] 2 = mkF m 0 #[rv x0, iv x1] [] := by first | (simp [entryFrame, mkF, argsToLocals, Value.category]; done) | rfl
def Q_rmS11 (Z : State) (u0 : Addr) (p1 : Int32) (tv : Addr) (kt : ClassId) (z : Int32) (vs : List Value) (zC : Int32) (fv : Value) (h0 : Heap) (n0 : Nat) (v : Option Value) (h : Heap) (L : List Loc) : Prop := ∃ (sg : Addr), ∃ (yv : Addr), ∃ (ky : ClassId), ∃ (zl : Int32), ∃ (ys : List Value), (v = (some (.ref sg)) ∧ Fr n0 L ∧ Keep h0 h [] ∧ h0.size ≤ sg ∧ h0.size ≤ yv ∧ sg ≠ yv ∧ Exa Z h sg "java/lang/String" ∧ Fld Z h sg "java/lang/String" "value" "[B" (.ref yv) ∧ Fld Z h sg "java/lang/String" "coder" "B" (.int (0 : Int32)) ∧ Arv Z h yv ky .byte zl ys (.int 0) ∧ ¬ (4 : Int32) < zl)
set_option maxRecDepth 65536 in
set_option maxHeartbeats 40000000 in
theorem rmS11 (l : Launch) (Z : State) (a0 : Array Value) (hw : ∀ d ∈ tables_1, d.before a0 Z = true) (ws : List Jvm.Cond) (u0 : Addr) (p1 : Int32) (tv : Addr) (kt : ClassId) (z : Int32) (vs : List Value) (zC : Int32) (fv : Value) (h0 : Heap) (n0 : Nat) (Z0 : n0 ≤ h0.size) (P_E_u0 : Exa Z h0 u0 "java/lang/String") (P_F_u0_String_value : Fld Z h0 u0 "java/lang/String" "value" "[B" (.ref tv)) (P_F_u0_String_coder : Fld Z h0 u0 "java/lang/String" "coder" "B" (.int (0 : Int32))) (P_G_tv : Arv Z h0 tv kt .byte z vs (.int 0)) (hz4 : ¬ (4 : Int32) < z) (P_S_String_COMPACT_STRINGS : Sta Z h0 "java/lang/String" "COMPACT_STRINGS" "Z" (.int zC)) (hz : ¬ (zC = (0 : Int32))) (P_S_Preconditions_SIOOBE_FORMATTER : Sta Z h0 "jdk/internal/util/Preconditions" "SIOOBE_FORMATTER" "Ljava/util/function/BiFunction;" fv) (hfv : (fv = .null ∨ ∃ a, fv = .ref a)) (ra : (0 : Int32) < p1) (rb : p1 < z) :
    own_MF l own_y35 (Jvm.Cond.code own_y35 jdk_42_method_91_code 2 (some (.object "java/lang/String"))) ws ({ frames := 5, cells := 2, slots := 8, locals := 80 } : Room) #[(.ref u0), (.int p1)] Z h0 (Q_rmS11 Z u0 p1 tv kt z vs zC fv h0 n0) := by
  refine MetFree.of_bodySF (plainFor_of_name pn_34) hisR ?_
  intro p e s m args below meth c s₁ Bd hml0 hP hK
  obtain ⟨rfl, hZ, hh⟩ := hP
  have hx := Bd.exec
  have hby := Bd.bytes
  have hml : c.maxLocals = 2 := hml0
  have hown : s.vm.findClass "java/lang/String" = some m.cls := findClass_of_methodNamed Bd.named
  have hnm := (name_of_methodNamed Bd.named Bd.method).1
  have X0 : Stand p l e ({ frames := 5, cells := 2, slots := 8, locals := 80 } : Room) s m #[(.ref u0), (.int p1)] below meth c s₁ [] 0 0 := Stand.of_body Bd
  have e0 : s₁.heap = h0 := by rw [← hh, Bd.state]; rfl
  have N0 := Fr.nil n0
  have pre0 : ∀ t, Steps p.tables e below (s₁.setTop (mkF m 0 #[rv u0, iv p1] [])) t → Steps p.tables e below (s₁.setTop (entryFrame m #[(.ref u0), (.int p1)] 2)) t := fun t k => castTop (ef_rmS11 m u0 p1) k
  obtain ⟨cq2, kq2, q2a, q2b, q2c⟩ := isOf hZ e0 P_E_u0
  obtain ⟨_, _, ⟨T1, L1, k1, n1⟩, -, X1, ⟨Lc1, hQ1, l1, y1, z1⟩, st1⟩ := X0.virtualBack hx (y := own_y8) (z := own_y8) hown (mvT hZ (own_g hw 94 rfl)) (mvT hZ (own_g hw 95 rfl)) (notFace_of_selects (args := #[]) (mvT hZ (own_g hw 97 rfl))) (mvT hZ (own_g hw 97 rfl)) (mvT hZ (own_g hw 96 rfl)) (by decide) (backOf (W := 2) (rmLe l Z a0 hw [] u0 tv kt z vs zC h0 n0 Z0 P_E_u0 P_F_u0_String_value P_F_u0_String_coder P_G_tv P_S_String_COMPACT_STRINGS hz) hZ (own_g hw 98 rfl) (own_g hw 8 rfl) (by decide) (by decide)) q2a q2c (g := (mkF m 3 #[rv u0, iv p1] [(.ref u0), (.int p1), (.ref u0)])) rfl (by rw [hml]; rfl) (Steps.refl _) (argsL := []) (rest := [(.int p1), (.ref u0)]) (lenOf pd___I rfl) rfl (by show 2 * 0 + _ ≤ _; exact Nat.le_of_eq rfl) (hb hby d34_3) (fun _ _ => ⟨rfl, e0, (by decide : 0 + 0 ≤ _), (by decide : 0 + 0 ≤ _)⟩)
  dsimp only [Pt.U, Pt.locs, Pt.cells, Pt.slots] at X1 l1 y1 z1 st1 hQ1
  subst l1 y1 z1
  obtain ⟨rfl, N1q, e1⟩ := hQ1
  have N1 := Fr.app N0 N1q
  obtain ⟨cq4, kq4, q4a, q4b, q4c⟩ := isOf hZ e1 P_E_u0
  obtain ⟨_, _, ⟨T3, L3, k3, n3⟩, -, X3, ⟨Lc3, hQ3, l3, y3, z3⟩, st3⟩ := X1.virtualBack hx (y := own_y34) (z := own_y34) hown (mvT hZ (own_g hw 194 rfl)) (mvT hZ (own_g hw 155 rfl)) (notFace_of_selects (args := #[]) (mvT hZ (own_g hw 157 rfl))) (mvT hZ (own_g hw 157 rfl)) (mvT hZ (own_g hw 156 rfl)) (by decide) (backOf (W := 0) (rmS21 l Z a0 hw [] u0 p1 z tv kt z vs zC fv h0 n0 Z0 P_E_u0 P_F_u0_String_value P_F_u0_String_coder P_G_tv hz4 P_S_String_COMPACT_STRINGS hz P_S_Preconditions_SIOOBE_FORMATTER hfv (own_nlt ra) rb Int32.lt_irrefl (fun q => absurd q (own_ne0 ra))) hZ (own_g hw 158 rfl) (own_g hw 8 rfl) (by decide) (by decide)) q4a q4c (g := (mkF m 6 #[rv u0, iv p1] [(.int z), (.int p1), (.ref u0)])) rfl (by rw [hml]; rfl) (Steps.refl _) (argsL := [(.int p1), (.int z)]) (rest := []) (lenOf pd__II_Ljava_lang_String_ rfl) rfl (by show 2 * 0 + _ ≤ _; exact Nat.le_of_eq rfl) (hb hby d34_6) (fun _ _ => ⟨rfl, e1, (by decide : 0 + 2 ≤ _), (by decide : 0 + 8 ≤ _)⟩)
  dsimp only [Pt.U, Pt.locs, Pt.cells, Pt.slots] at X3 l3 y3 z3 st3 hQ3
  subst l3 y3 z3
  obtain ⟨sg_3, yv_3, ky_3, zl_3, ys_3, rfl, N3q, K3, sx3_0, sx3_1, px3_0, f5, f6, f7, f8, f9⟩ := hQ3
  have osg_3 : n0 ≤ sg_3 := Nat.le_trans Z0 sx3_0
  have zsg_3 : h0.size ≤ sg_3 := Nat.le_trans (Keep.refl h0 []).1 sx3_0
  have ne10 : u0 ≠ sg_3 := Nat.ne_of_lt (Nat.lt_of_lt_of_le P_E_u0.lt sx3_0)
  have ne11 : tv ≠ sg_3 := Nat.ne_of_lt (Nat.lt_of_lt_of_le P_G_tv.lt sx3_0)
  have oyv_3 : n0 ≤ yv_3 := Nat.le_trans Z0 sx3_1
  have zyv_3 : h0.size ≤ yv_3 := Nat.le_trans (Keep.refl h0 []).1 sx3_1
  have ne12 : u0 ≠ yv_3 := Nat.ne_of_lt (Nat.lt_of_lt_of_le P_E_u0.lt sx3_1)
  have ne13 : tv ≠ yv_3 := Nat.ne_of_lt (Nat.lt_of_lt_of_le P_G_tv.lt sx3_1)
  have KK3 : Keep h0 T3.heap [] := Keep.trans (Keep.refl h0 []) K3 all0
  have N3 := Fr.app N1 N3q
  obtain ⟨fs, hr, hrun, hended, hW, hsame⟩ := X3.leave (v := some (.ref sg_3)) (fun h => by rw [Bd.returns] at h; cases h)
  refine ⟨_, _, pre0 _ ?_, hrun, hended, _, _, rfl, ?_, ⟨_, rfl⟩, hW, hsame.mono (by decide) (by decide)⟩
  · refine XS.aloadN X0.here hx rfl (hb hby d34_0) rfl rfl ?_
    refine XS.iloadN X0.here hx rfl (hb hby d34_1) rfl ?_
    refine XS.aloadN X0.here hx rfl (hb hby d34_2) rfl rfl ?_
    show Steps _ _ _ (s₁.setTop (mkF m 3 #[rv u0, iv p1] [(.ref u0), (.int p1), (.ref u0)])) _
    refine st1.trans ?_
    show Steps _ _ _ (T1.setTop (mkF m 6 #[rv u0, iv p1] [(.int z), (.int p1), (.ref u0)])) _
    refine st3.trans ?_
    show Steps _ _ _ (T3.setTop (mkF m 9 #[rv u0, iv p1] [(.ref sg_3)])) _
    exact retOut X3 hx Bd.returns rfl (Or.inr (Or.inr (Or.inr (Or.inr ⟨rfl, rfl, rfl⟩)))) (hb hby d34_9) hr
  · show Q_rmS11 Z u0 p1 tv kt z vs zC fv h0 n0 _ T3.heap _
    exact ⟨sg_3, yv_3, ky_3, zl_3, ys_3, rfl, N3, KK3, zsg_3, zyv_3, px3_0, f5, f6, f7, f8, f9⟩

theorem ef_rmS10 (m : MethodId) (x0 : Addr) (x1 : Int32) : entryFrame m #[(.ref x0), (.int x1)] 2 = mkF m 0 #[rv x0, iv x1] [] := by first | (simp [entryFrame, mkF, argsToLocals, Value.category]; done) | rfl
def Q_rmS10 (Z : State) (u0 : Addr) (tv : Addr) (kt : ClassId) (z : Int32) (vs : List Value) (zC : Int32) (fv : Value) (nm : Addr) (h0 : Heap) (n0 : Nat) (v : Option Value) (h : Heap) (L : List Loc) : Prop := ∃ (sg : Jvm.Addr), ∃ (yv : Jvm.Addr), ∃ (ky : ClassId), ∃ (zl : Int32), ∃ (ys : List Value), (v = (some (.ref sg)) ∧ Fr n0 L ∧ Keep h0 h [] ∧ Exa Z h sg "java/lang/String" ∧ Fld Z h sg "java/lang/String" "value" "[B" (.ref yv) ∧ Fld Z h sg "java/lang/String" "coder" "B" (.int (0 : Int32)) ∧ Arv Z h yv ky .byte zl ys (.int 0) ∧ ¬ (4 : Int32) < zl ∧ sg ≠ nm ∧ yv ≠ nm)
set_option maxRecDepth 65536 in
set_option maxHeartbeats 40000000 in
theorem rmS10 (l : Launch) (Z : State) (a0 : Array Value) (hw : ∀ d ∈ tables_1, d.before a0 Z = true) (ws : List Jvm.Cond) (u0 : Addr) (tv : Addr) (kt : ClassId) (z : Int32) (vs : List Value) (zC : Int32) (fv : Value) (nm : Addr) (h0 : Heap) (n0 : Nat) (Z0 : n0 ≤ h0.size) (P_E_u0 : Exa Z h0 u0 "java/lang/String") (P_F_u0_String_value : Fld Z h0 u0 "java/lang/String" "value" "[B" (.ref tv)) (P_F_u0_String_coder : Fld Z h0 u0 "java/lang/String" "coder" "B" (.int (0 : Int32))) (P_G_tv : Arv Z h0 tv kt .byte z vs (.int 0)) (hz4 : ¬ (4 : Int32) < z) (P_S_String_COMPACT_STRINGS : Sta Z h0 "java/lang/String" "COMPACT_STRINGS" "Z" (.int zC)) (hz : ¬ (zC = (0 : Int32))) (P_S_Preconditions_SIOOBE_FORMATTER : Sta Z h0 "jdk/internal/util/Preconditions" "SIOOBE_FORMATTER" "Ljava/util/function/BiFunction;" fv) (hfv : (fv = .null ∨ ∃ a, fv = .ref a)) (ra : (0 : Int32) < z) (P_E_nm : Exa Z h0 nm "com/example/bundlewright/bundlewright/core/Name") :
    MetFree l own_y35 (head1 (Jvm.Cond.code own_y35 jdk_42_method_91_code 2 (some (.object "java/lang/String")) :: ws) ({ frames := 3, cells := 2, slots := 4, locals := 45 } : Room)) (fun a U => a = #[(.ref u0), (.int z)] ∧ Z.Warmed39 U.vm ∧ U.heap = h0 ∧ CHv Z own_EL U.vm h0) (fun _ _ _ _ _ => True) (fun _ U o U' => ∃ v L, o = .returned v ∧ Q_rmS10 Z u0 tv kt z vs zC fv nm h0 n0 v U'.heap L ∧ CHr Z own_EL U.vm U.heap U'.vm U'.heap ∧ ReturnedEndW U o U' L ({ frames := 3, cells := 2, slots := 4, locals := 45 } : Room).cells ({ frames := 3, cells := 2, slots := 4, locals := 45 } : Room).slots) := by
  refine MetFree.of_bodySF (plainFor_of_name pn_34) hisR ?_
  intro p e s m args below meth c s₁ Bd hml0 hP hK
  obtain ⟨rfl, hZ, hh, hCH⟩ := hP
  have hx := Bd.exec
  have hby := Bd.bytes
  have hml : c.maxLocals = 2 := hml0
  have hown : s.vm.findClass "java/lang/String" = some m.cls := findClass_of_methodNamed Bd.named
  have hnm := (name_of_methodNamed Bd.named Bd.method).1
  have X0 : Stand p l e ({ frames := 3, cells := 2, slots := 4, locals := 45 } : Room) s m #[(.ref u0), (.int z)] below meth c s₁ [] 0 0 := Stand.of_body Bd
  have e0 : s₁.heap = h0 := by rw [← hh, Bd.state]; rfl
  have N0 := Fr.nil n0
  have pre0 : ∀ t, Steps p.tables e below (s₁.setTop (mkF m 0 #[rv u0, iv z] [])) t → Steps p.tables e below (s₁.setTop (entryFrame m #[(.ref u0), (.int z)] 2)) t := fun t k => castTop (ef_rmS10 m u0 z) k
  have hEL : EW Z a0 own_EL := own_hEL hw
  have wS : ∀ a ∈ Bundle.stringAtoms, a.before a0 Z = true := fun d hd => hw d ((by decide +kernel : ∀ d ∈ Bundle.stringAtoms, d ∈ tables_1) d hd)
  have CH0 : CHr Z own_EL s.vm h0 s.vm h0 := CHr.refl hCH
  have hS0 : s.Since s.vm h0.size := (State.WarmedH.refl s).since _
  have Y_nm : Safe Z own_EL s.vm h0 nm := Safe.exa hZ.alike P_E_nm (by decide) (by decide)
  have pre1 : ∀ t, Steps p.tables e below (s₁.setTop (mkF m 3 #[rv u0, iv z] [(.ref u0), (.int z), (.ref u0)])) t → Steps p.tables e below (s₁.setTop (entryFrame m #[(.ref u0), (.int z)] 2)) t := fun t kt => pre0 t (by
   refine XS.aloadN X0.here hx rfl (hb hby d34_0) rfl rfl ?_
   refine XS.iloadN X0.here hx rfl (hb hby d34_1) rfl ?_
   refine XS.aloadN X0.here hx rfl (hb hby d34_2) rfl rfl ?_
   exact kt)
  obtain ⟨cq3, kq3, q3a, q3b, q3c⟩ := isOf hZ e0 P_E_u0
  obtain ⟨_, _, ⟨T2, L2, k2, n2⟩, -, X2, ⟨Lc2, hQ2, l2, y2, z2⟩, st2⟩ := X0.virtualBack hx (y := own_y8) (z := own_y8) hown (mvT hZ (own_g hw 94 rfl)) (mvT hZ (own_g hw 95 rfl)) (notFace_of_selects (args := #[]) (mvT hZ (own_g hw 97 rfl))) (mvT hZ (own_g hw 97 rfl)) (mvT hZ (own_g hw 96 rfl)) (by decide) (backOf (W := 2) (rmLe l Z a0 hw [] u0 tv kt z vs zC h0 n0 Z0 P_E_u0 P_F_u0_String_value P_F_u0_String_coder P_G_tv P_S_String_COMPACT_STRINGS hz) hZ (own_g hw 98 rfl) (own_g hw 8 rfl) (by decide) (by decide)) q3a q3c (g := (mkF m 3 #[rv u0, iv z] [(.ref u0), (.int z), (.ref u0)])) rfl (by rw [hml]; rfl) (Steps.refl _) (argsL := []) (rest := [(.int z), (.ref u0)]) (lenOf pd___I rfl) rfl (by show 2 * 0 + _ ≤ _; exact Nat.le_of_eq rfl) (hb hby d34_3) (fun _ _ => ⟨rfl, e0, (by decide : 0 + 0 ≤ _), (by decide : 0 + 0 ≤ _)⟩)
  dsimp only [Pt.U, Pt.locs, Pt.cells, Pt.slots] at X2 l2 y2 z2 st2 hQ2
  subst l2 y2 z2
  obtain ⟨rfl, N2q, e2⟩ := hQ2
  have N2 := Fr.app N0 N2q
  have pre4 : ∀ t, Steps p.tables e below (T2.setTop (mkF m 6 #[rv u0, iv z] [(.int z), (.int z), (.ref u0)])) t → Steps p.tables e below (s₁.setTop (entryFrame m #[(.ref u0), (.int z)] 2)) t := fun t kt => pre1 t (by
   show Steps _ _ _ (s₁.setTop (mkF m 3 #[rv u0, iv z] [(.ref u0), (.int z), (.ref u0)])) _
   refine st2.trans ?_
   exact kt)
  obtain ⟨cq6, kq6, q6a, q6b, q6c⟩ := isOf hZ e2 P_E_u0
  obtain ⟨_, _, ⟨T5, L5, k5, n5⟩, -, Xw5, hSw5, gr5, ⟨Lc5, hQ5, l5, y5, z5, CHq5⟩, st5⟩ := X2.virtualBackS hx (y := own_y34) (z := own_y34) hown (mvT hZ (own_g hw 194 rfl)) (mvT hZ (own_g hw 155 rfl)) (notFace_of_selects (args := #[]) (mvT hZ (own_g hw 157 rfl))) (mvT hZ (own_g hw 157 rfl)) (mvT hZ (own_g hw 156 rfl)) (by decide) (backOfSH (W := 0) (rmS20 l Z a0 hw [] u0 z tv kt z vs zC fv nm h0 n0 Z0 P_E_u0 P_F_u0_String_value P_F_u0_String_coder P_G_tv hz4 P_S_String_COMPACT_STRINGS hz P_S_Preconditions_SIOOBE_FORMATTER hfv (own_nlt ra) Int32.lt_irrefl (fun q => absurd q (own_ne0 ra)) P_E_nm) hZ (own_g hw 158 rfl) (own_g hw 8 rfl) (by decide) (by decide) hEL CH0.1) q6a q6c (g := (mkF m 6 #[rv u0, iv z] [(.int z), (.int z), (.ref u0)])) rfl (by rw [hml]; rfl) (Steps.refl _) (argsL := [(.int z), (.int z)]) (rest := []) (lenOf pd__II_Ljava_lang_String_ rfl) rfl (by show 2 * 0 + _ ≤ _; exact Nat.le_of_eq rfl) (hb hby d34_6) (fun _ _ => ⟨rfl, e2, (by decide : 0 + 2 ≤ _), (by decide : 0 + 4 ≤ _)⟩)
  dsimp only [Pt.U, Pt.locs, Pt.cells, Pt.slots] at Xw5 hSw5 gr5 l5 y5 z5 st5 hQ5 CHq5
  subst l5 y5 z5
  obtain ⟨X5, hS5, hZ5, hown5⟩ := rebS hS0 (by rw [e2]; exact (Nat.le_refl h0.size)) Xw5 hSw5 gr5 hZ hown
  obtain ⟨sg_5, yv_5, ky_5, zl_5, ys_5, rfl, N5q, K5, f7, f8, f9, f10, f11, f12⟩ := hQ5
  have KK5 : Keep h0 T5.heap [] := Keep.trans (Keep.refl h0 []) K5 all0
  have CH13 : CHr Z own_EL s.vm h0 T5.vm T5.heap := CH0.trans CHq5
  have Yr14 : Safe Z own_EL T5.vm T5.heap nm := CHr.safe CHq5 P_E_nm.lt Y_nm
  have N5 := Fr.app N2 N5q
  obtain ⟨fs, hr, hrun, hended, hW, hsame⟩ := X5.leave (v := some (.ref sg_5)) (fun h => by rw [Bd.returns] at h; cases h)
  have qE := hS5.ended (c := ({ frames := 3, cells := 2, slots := 4, locals := 45 } : Room).cells) (k := ({ frames := 3, cells := 2, slots := 4, locals := 45 } : Room).slots) hW (show _ ≤ T5.heap.size from (Nat.le_refl _)) (hsame.mono (by decide) (by decide))
  have qC : CHr Z own_EL s.vm s.heap T5.vm T5.heap := by rw [hh]; exact CH13.trans (CHv.at (show Stand p l e ({ frames := 3, cells := 2, slots := 4, locals := 45 } : Room) (s.setVm T5.vm) m _ below meth c _ _ _ _ from X5) hZ5 hEL CH13.1)
  refine ⟨_, _, pre4 _ ?_, hrun, hended, _, _, rfl, ?_, qC, ⟨_, rfl⟩, qE.1, qE.2.1, qE.2.2⟩
  · show Steps _ _ _ (T2.setTop (mkF m 6 #[rv u0, iv z] [(.int z), (.int z), (.ref u0)])) _
    refine st5.trans ?_
    show Steps _ _ _ (T5.setTop (mkF m 9 #[rv u0, iv z] [(.ref sg_5)])) _
    exact retOut X5 hx Bd.returns rfl (Or.inr (Or.inr (Or.inr (Or.inr ⟨rfl, rfl, rfl⟩)))) (hb hby d34_9) hr
  · show Q_rmS10 Z u0 tv kt z vs zC fv nm h0 n0 _ T5.heap _
    exact ⟨sg_5, yv_5, ky_5, zl_5, ys_5, rfl, N5, KK5, f7, f8, f9, f10, f11, ⟨f12.1, f12.2⟩⟩

theorem ef_rmNI (m : MethodId) (x0 : Addr) (x1 : Addr) (x2 : Int32) : entryFrame m #[(.ref x0), (.ref x1), (.int x2)] 4 = mkF m 0 #[rv x0, rv x1, iv x2, .unset] [] := by first | (simp [entryFrame, mkF, argsToLocals, Value.category]; done) | rfl
def Q_rmNI (Z : State) (u0 : Addr) (u1 : Addr) (p2 : Int32) (tv : Addr) (kt : ClassId) (z : Int32) (vs : List Value) (a8 : Addr) (ai : Addr) (ua : Addr) (zC : Int32) (fv : Value) (kd : Addr) (kK : ClassId) (vK : List Value) (h0 : Heap) (n0 : Nat) (v : Option Value) (h : Heap) (L : List Loc) : Prop := ∃ (ta : Addr), ∃ (ka : ClassId), (v = none ∧ Fr n0 L ∧ Keep h0 h [u0] ∧ h0.size ≤ ta ∧ Exa Z h u0 "com/example/bundlewright/bundlewright/core/Name" ∧ Fld Z h u0 "com/example/bundlewright/bundlewright/core/Name" "ascii" "[B" (.ref ta) ∧ Arv Z h ta ka .byte z vs (.int 0))
set_option maxRecDepth 65536 in
set_option maxHeartbeats 40000000 in
theorem rmNI (l : Launch) (Z : State) (a0 : Array Value) (hw : ∀ d ∈ tables_1, d.before a0 Z = true) (ws : List Jvm.Cond) (u0 : Addr) (u1 : Addr) (p2 : Int32) (tv : Addr) (kt : ClassId) (z : Int32) (vs : List Value) (a8 : Addr) (ai : Addr) (ua : Addr) (zC : Int32) (fv : Value) (kd : Addr) (kK : ClassId) (vK : List Value) (h0 : Heap) (n0 : Nat) (Z0 : n0 ≤ h0.size) (P_E_u0 : Exa Z h0 u0 "com/example/bundlewright/bundlewright/core/Name") (P_F_u0_Name_written : Fld Z h0 u0 "com/example/bundlewright/bundlewright/core/Name" "written" "Ljava/lang/String;" .null) (P_F_u0_Name_ascii : Fld Z h0 u0 "com/example/bundlewright/bundlewright/core/Name" "ascii" "[B" .null) (P_F_u0_Name_hash : Fld Z h0 u0 "com/example/bundlewright/bundlewright/core/Name" "hash" "I" (.int (0 : Int32))) (P_F_u0_Name_qualified : Fld Z h0 u0 "com/example/bundlewright/bundlewright/core/Name" "qualified" "Z" (.int (0 : Int32))) (P_F_u0_Name_prefix : Fld Z h0 u0 "com/example/bundlewright/bundlewright/core/Name" "prefix" "Ljava/lang/String;" .null) (P_F_u0_Name_local : Fld Z h0 u0 "com/example/bundlewright/bundlewright/core/Name" "local" "Ljava/lang/String;" .null) (P_F_u0_Name_declared : Fld Z h0 u0 "com/example/bundlewright/bundlewright/core/Name" "declared" "Ljava/lang/String;" .null) (P_F_u0_Name_reservedPrefix : Fld Z h0 u0 "com/example/bundlewright/bundlewright/core/Name" "reservedPrefix" "Z" (.int (0 : Int32))) (P_E_u1 : Exa Z h0 u1 "java/lang/String") (P_F_u1_String_value : Fld Z h0 u1 "java/lang/String" "value" "[B" (.ref tv)) (P_F_u1_String_coder : Fld Z h0 u1 "java/lang/String" "coder" "B" (.int (0 : Int32))) (P_G_tv : Arv Z h0 tv kt .byte z vs (.int 0)) (P_E_tv : Exa Z h0 tv "[B") (hz4 : ¬ (4 : Int32) < z) (hpos : ∀ j : Int32, ¬ j < 0 → ¬ (own_at vs j) < 0) (P_S_US_ASCII_INSTANCE : Sta Z h0 "sun/nio/cs/US_ASCII" "INSTANCE" "Lsun/nio/cs/US_ASCII;" (.ref ua)) (P_S_UTF_8_INSTANCE : Sta Z h0 "sun/nio/cs/UTF_8" "INSTANCE" "Lsun/nio/cs/UTF_8;" (.ref a8)) (P_S_ISO_8859_1_INSTANCE : Sta Z h0 "sun/nio/cs/ISO_8859_1" "INSTANCE" "Lsun/nio/cs/ISO_8859_1;" (.ref ai)) (neU8 : ua ≠ a8) (neUI : ua ≠ ai) (P_S_StandardCharsets_US_ASCII : Sta Z h0 "java/nio/charset/StandardCharsets" "US_ASCII" "Ljava/nio/charset/Charset;" (.ref ua)) (neS : u1 ≠ u0) (neT : tv ≠ u0) (neK : kd ≠ u0) (P_S_String_COMPACT_STRINGS : Sta Z h0 "java/lang/String" "COMPACT_STRINGS" "Z" (.int zC)) (hz : ¬ (zC = (0 : Int32))) (P_S_Preconditions_SIOOBE_FORMATTER : Sta Z h0 "jdk/internal/util/Preconditions" "SIOOBE_FORMATTER" "Ljava/util/function/BiFunction;" fv) (hfv : (fv = .null ∨ ∃ a, fv = .ref a)) (P_S_Name_KIND : Sta Z h0 "com/example/bundlewright/bundlewright/core/Name" "KIND" "[B" (.ref kd)) (P_G_kd : Arv Z h0 kd kK .byte (128 : Int32) vK (.int 0)) (g_u0 : n0 ≤ u0) :
    MetFree l own_y36 (head1 (Jvm.Cond.code own_y36 prog_31_method_1_code 4 none :: ws) ({ frames := 6, cells := 13, slots := 108, locals := 94 } : Room)) (fun a U => a = #[(.ref u0), (.ref u1), (.int p2)] ∧ Z.Warmed39 U.vm ∧ U.heap = h0 ∧ CHv Z own_EL U.vm h0) (fun _ _ _ _ _ => True) (fun _ U o U' => ∃ v L, o = .returned v ∧ Q_rmNI Z u0 u1 p2 tv kt z vs a8 ai ua zC fv kd kK vK h0 n0 v U'.heap L ∧ CHr Z own_EL U.vm U.heap U'.vm U'.heap ∧ ReturnedEndW U o U' L ({ frames := 6, cells := 13, slots := 108, locals := 94 } : Room).cells ({ frames := 6, cells := 13, slots := 108, locals := 94 } : Room).slots) := by
  refine MetFree.of_bodySF (plainFor_of_name pn_5) hisR ?_
  intro p e s m args below meth c s₁ Bd hml0 hP hK
  obtain ⟨rfl, hZ, hh, hCH⟩ := hP
  have hx := Bd.exec
  have hby := Bd.bytes
  have hml : c.maxLocals = 4 := hml0
  have hown : s.vm.findClass "com/example/bundlewright/bundlewright/core/Name" = some m.cls := findClass_of_methodNamed Bd.named
  have hnm := (name_of_methodNamed Bd.named Bd.method).1
  have X0 : Stand p l e ({ frames := 6, cells := 13, slots := 108, locals := 94 } : Room) s m #[(.ref u0), (.ref u1), (.int p2)] below meth c s₁ [] 0 0 := Stand.of_body Bd
  have e0 : s₁.heap = h0 := by rw [← hh, Bd.state]; rfl
  have N0 := Fr.nil n0
  have pre0 : ∀ t, Steps p.tables e below (s₁.setTop (mkF m 0 #[rv u0, rv u1, iv p2, .unset] [])) t → Steps p.tables e below (s₁.setTop (entryFrame m #[(.ref u0), (.ref u1), (.int p2)] 4)) t := fun t k => castTop (ef_rmNI m u0 u1 p2) k
  have hEL : EW Z a0 own_EL := own_hEL hw
  have wS : ∀ a ∈ Bundle.stringAtoms, a.before a0 Z = true := fun d hd => hw d ((by decide +kernel : ∀ d ∈ Bundle.stringAtoms, d ∈ tables_1) d hd)
  have CH0 : CHr Z own_EL s.vm h0 s.vm h0 := CHr.refl hCH
  have hS0 : s.Since s.vm h0.size := (State.WarmedH.refl s).since _
  have Y_u0 : Safe Z own_EL s.vm h0 u0 := Safe.exa hZ.alike P_E_u0 (by decide) (by decide)
  have pre1 : ∀ t, Steps p.tables e below (s₁.setTop (mkF m 1 #[rv u0, rv u1, iv p2, .unset] [(.ref u0)])) t → Steps p.tables e below (s₁.setTop (entryFrame m #[(.ref u0), (.ref u1), (.int p2)] 4)) t := fun t kt => pre0 t (by
   refine XS.aloadN X0.here hx rfl (hb hby d5_0) rfl rfl ?_
   exact kt)
  obtain ⟨T2, X2, e2, st2⟩ := initO X0 hx hZ hown (own_g hw 34 rfl) (own_g hw 18 rfl) (own_g hw 19 rfl) e0 (g := (mkF m 1 #[rv u0, rv u1, iv p2, .unset] [(.ref u0)])) rfl (by rw [hml]; rfl) rfl (hb hby d5_1) (by decide) (W := 0) (by show 2 * 0 + _ ≤ _; exact Nat.le_of_eq rfl) (by decide)
  obtain ⟨T3, h3, X3, e3, W3, st3⟩ := putF X2 hx hZ hown (host := "") (Or.inl (own_g hw 35 rfl)) Via.refl e2 P_F_u0_Name_written P_E_u0 (Or.inr ⟨(own_g hw 36 rfl), rfl, hnm⟩) (own_g hw 29 rfl) (ty := (.object "java/lang/String")) (by decide) rfl rfl (g := (mkF m 6 #[rv u0, rv u1, iv p2, .unset] [(.ref u1), (.ref u0)])) rfl rfl (hb hby d5_6)
  have CH4 : CHr Z own_EL s.vm h0 s.vm h3 := CH0.trans (CHr.wr W3 Y_u0 CH0.1)
  have f3_ : Fld Z h3 u0 "com/example/bundlewright/bundlewright/core/Name" "written" "Ljava/lang/String;" (.ref u1) := P_F_u0_Name_written.same W3
  have N5 := Fr.snoc X3 N0 g_u0
  have K6 : Keep h0 h3 [u0] := (Keep.refl h0 [u0]).wr W3 (Or.inl (List.mem_of_getElem? (i := 0) rfl))
  have f7 := (P_S_StandardCharsets_US_ASCII.wr W3)
  obtain ⟨T8, X8, e8, st8⟩ := getS2 X3 hx hZ hown (host := "") (Or.inl (own_g hw 37 rfl)) Via.refl e3 f7 (g := (mkF m 11 #[rv u0, rv u1, iv p2, .unset] [(.ref u1), (.ref u0)])) rfl (hb hby d5_11)
  have pre9 : ∀ t, Steps p.tables e below (T8.setTop (mkF m 14 #[rv u0, rv u1, iv p2, .unset] [(.ref ua), (.ref u1), (.ref u0)])) t → Steps p.tables e below (s₁.setTop (entryFrame m #[(.ref u0), (.ref u1), (.int p2)] 4)) t := fun t kt => pre1 t (by
   show Steps _ _ _ (s₁.setTop (mkF m 1 #[rv u0, rv u1, iv p2, .unset] [(.ref u0)])) _
   refine st2 _ ?_
   refine XS.aloadN X2.here hx rfl (hb hby d5_4) rfl rfl ?_
   refine XS.aloadN X2.here hx rfl (hb hby d5_5) rfl rfl ?_
   refine st3 _ ?_
   refine XS.aloadN X3.here hx rfl (hb hby d5_9) rfl rfl ?_
   refine XS.aloadN X3.here hx rfl (hb hby d5_10) rfl rfl ?_
   refine st8 _ ?_
   exact kt)
  have f10 := (P_E_u1.wr W3)
  have f11 := (P_F_u1_String_value.other W3 (Or.inl neS))
  have f12 := (P_F_u1_String_coder.other W3 (Or.inl neS))
  have f13 := (P_G_tv.other W3 neT)
  have f14 := (P_E_tv.wr W3)
  have f15 := (P_S_US_ASCII_INSTANCE.wr W3)
  have f16 := (P_S_UTF_8_INSTANCE.wr W3)
  have f17 := (P_S_ISO_8859_1_INSTANCE.wr W3)
  have f18 := (P_S_String_COMPACT_STRINGS.wr W3)
  have f19 := (Nat.le_trans Z0 (Keep.of_wr W3).1)
  obtain ⟨cq21, kq21, q21a, q21b, q21c⟩ := isOf hZ e8 f10
  obtain ⟨_, _, ⟨T20, L20, k20, n20⟩, -, X20, ⟨Lc20, hQ20, l20, y20, z20⟩, st20⟩ := X8.virtualBack hx (y := own_y29) (z := own_y29) hown (mvT hZ (own_g hw 39 rfl)) (mvT hZ (own_g hw 40 rfl)) (notFace_of_selects (args := #[]) (mvT hZ (own_g hw 42 rfl))) (mvT hZ (own_g hw 42 rfl)) (mvT hZ (own_g hw 41 rfl)) (by decide) (backOf (W := 1) (rmGB l Z a0 hw [] u1 ua tv kt z vs a8 ai zC h3 n0 f19 f10 f11 f12 f13 f14 hz4 hpos f15 f16 f17 neU8 neUI f18 hz) hZ (own_g hw 43 rfl) (own_g hw 8 rfl) (by decide) (by decide)) q21a q21c (g := (mkF m 14 #[rv u0, rv u1, iv p2, .unset] [(.ref ua), (.ref u1), (.ref u0)])) rfl (by rw [hml]; rfl) (Steps.refl _) (argsL := [(.ref ua)]) (rest := [(.ref u0)]) (lenOf pd__Ljava_nio_charset_Charset___B rfl) rfl (by show 2 * 0 + _ ≤ _; exact Nat.le_of_eq rfl) (hb hby d5_14) (fun _ _ => ⟨rfl, e8, (by decide : 0 + 1 ≤ _), (by decide : 0 + 4 ≤ _)⟩)
  dsimp only [Pt.U, Pt.locs, Pt.cells, Pt.slots] at X20 l20 y20 z20 st20 hQ20
  subst l20 y20 z20
  have f22 := (P_E_u0.wr W3)
  have f23 := (P_G_kd.other W3 neK)
  obtain ⟨ta_20, ka_20, rfl, N20q, K20, sx20_0, f24, f25⟩ := hQ20
  have ota_20 : n0 ≤ ta_20 := Nat.le_trans f19 sx20_0
  have zta_20 : h0.size ≤ ta_20 := Nat.le_trans K6.1 sx20_0
  have ne26 : u0 ≠ ta_20 := Nat.ne_of_lt (Nat.lt_of_lt_of_le f22.lt sx20_0)
  have ne27 : u1 ≠ ta_20 := Nat.ne_of_lt (Nat.lt_of_lt_of_le f10.lt sx20_0)
  have ne28 : tv ≠ ta_20 := Nat.ne_of_lt (Nat.lt_of_lt_of_le f13.lt sx20_0)
  have ne29 : kd ≠ ta_20 := Nat.ne_of_lt (Nat.lt_of_lt_of_le f23.lt sx20_0)
  have KK20 : Keep h0 T20.heap [u0] := Keep.trans K6 K20 all0
  have CH30 : CHr Z own_EL s.vm h0 s.vm T20.heap := CH4.trans (CHr.keep K20 sf0 CH4.1)
  have N20 := Fr.app N5 N20q
  have f31 := (f22.keep K20)
  have f32 := ((P_F_u0_Name_ascii.other W3 (Or.inr (slot_ne (Or.inr (own_g hw 76 rfl)) (Or.inr (own_g hw 36 rfl)) (by decide) (t := (.array .byte)) (t' := (.object "java/lang/String")) (by decide) (by decide)))).keep K20 nin0)
  have f33 : Safe Z own_EL s.vm T20.heap u0 := (Safe.keep K20 sf0 CH4.1 (Safe.wr W3 Y_u0 CH0.1 Y_u0))
  obtain ⟨T34, h34, X34, e34, W34, st34⟩ := putF X20 hx hZ hown (host := "") (Or.inl (own_g hw 75 rfl)) Via.refl rfl f32 f31 (Or.inr ⟨(own_g hw 76 rfl), rfl, hnm⟩) (own_g hw 29 rfl) (ty := (.array .byte)) (by decide) rfl rfl (g := (mkF m 17 #[rv u0, rv u1, iv p2, .unset] [(.ref ta_20), (.ref u0)])) rfl rfl (hb hby d5_17)
  have CH35 : CHr Z own_EL s.vm h0 s.vm h34 := CH30.trans (CHr.wr W34 f33 CH30.1)
  have f34_ : Fld Z h34 u0 "com/example/bundlewright/bundlewright/core/Name" "ascii" "[B" (.ref ta_20) := f32.same W34
  have N36 := Fr.snoc X34 N20 g_u0
  have K37 : Keep h0 h34 [u0] := KK20.wr W34 (Or.inl (List.mem_of_getElem? (i := 0) rfl))
  have f38 := (f31.wr W34)
  have f39 := (((P_F_u0_Name_hash.other W3 (Or.inr (slot_ne (Or.inr (own_g hw 78 rfl)) (Or.inr (own_g hw 36 rfl)) (by decide) (t := .int) (t' := (.object "java/lang/String")) (by decide) (by decide)))).keep K20 nin0).other W34 (Or.inr (slot_ne (Or.inr (own_g hw 78 rfl)) (Or.inr (own_g hw 76 rfl)) (by decide) (t := .int) (t' := (.array .byte)) (by decide) (by decide))))
  have f40 : Safe Z own_EL s.vm h34 u0 := (Safe.wr W34 f33 CH30.1 f33)
  obtain ⟨T41, h41, X41, e41, W41, st41⟩ := putF X34 hx hZ hown (host := "") (Or.inl (own_g hw 77 rfl)) Via.refl e34 f39 f38 (Or.inr ⟨(own_g hw 78 rfl), rfl, hnm⟩) (own_g hw 29 rfl) (ty := .int) (by decide) rfl rfl (g := (mkF m 22 #[rv u0, rv u1, iv p2, .unset] [(.int p2), (.ref u0)])) rfl rfl (hb hby d5_22)
  have CH42 : CHr Z own_EL s.vm h0 s.vm h41 := CH35.trans (CHr.wr W41 f40 CH35.1)
  have f41_ : Fld Z h41 u0 "com/example/bundlewright/bundlewright/core/Name" "hash" "I" (.int p2) := f39.same W41
  have N43 := Fr.snoc X41 N36 g_u0
  have K44 : Keep h0 h41 [u0] := K37.wr W41 (Or.inl (List.mem_of_getElem? (i := 0) rfl))
  have pre45 : ∀ t, Steps p.tables e below (T41.setTop (mkF m 28 #[rv u0, rv u1, iv p2, .unset] [(.int (58 : Int32)), (.ref u1)])) t → Steps p.tables e below (s₁.setTop (entryFrame m #[(.ref u0), (.ref u1), (.int p2)] 4)) t := fun t kt => pre9 t (by
   show Steps _ _ _ (T8.setTop (mkF m 14 #[rv u0, rv u1, iv p2, .unset] [(.ref ua), (.ref u1), (.ref u0)])) _
   refine st20.trans ?_
   refine st34 _ ?_
   refine XS.aloadN X34.here hx rfl (hb hby d5_20) rfl rfl ?_
   refine XS.iloadN X34.here hx rfl (hb hby d5_21) rfl ?_
   refine st41 _ ?_
   refine XS.aloadN X41.here hx rfl (hb hby d5_25) rfl rfl ?_
   refine XS.bipush X41.here hx rfl (hb hby d5_26) ?_
   exact kt)
  have f46 := (((f10.keep K20).wr W34).wr W41)
  have f47 := (((f11.keep K20 nin0).other W34 (Or.inl neS)).other W41 (Or.inl neS))
  have f48 := (((f12.keep K20 nin0).other W34 (Or.inl neS)).other W41 (Or.inl neS))
  have f49 := (((f13.keep K20 nin0).other W34 neT).other W41 neT)
  have f50 := (((own_staKeep f18 K20 ns0).wr W34).wr W41)
  have f51 := (Nat.le_trans (Nat.le_trans (Nat.le_trans f19 K20.1) (Keep.of_wr W34).1) (Keep.of_wr W41).1)
  obtain ⟨cq53, kq53, q53a, q53b, q53c⟩ := isOf hZ e41 f46
  obtain ⟨_, _, ⟨T52, L52, k52, n52⟩, -, X52, ⟨Lc52, hQ52, l52, y52, z52⟩, st52⟩ := X41.virtualBack hx (y := own_y20) (z := own_y20) hown (mvT hZ (own_g hw 79 rfl)) (mvT hZ (own_g hw 80 rfl)) (notFace_of_selects (args := #[]) (mvT hZ (own_g hw 82 rfl))) (mvT hZ (own_g hw 82 rfl)) (mvT hZ (own_g hw 81 rfl)) (by decide) (backOf (W := 0) (rmI1a l Z a0 hw [] u1 tv kt z vs zC h41 n0 f51 f46 f47 f48 f49 hz4 f50 hz) hZ (own_g hw 83 rfl) (own_g hw 8 rfl) (by decide) (by decide)) q53a q53c (g := (mkF m 28 #[rv u0, rv u1, iv p2, .unset] [(.int (58 : Int32)), (.ref u1)])) rfl (by rw [hml]; rfl) (Steps.refl _) (argsL := [(.int (58 : Int32))]) (rest := []) (lenOf pd__I_I rfl) rfl (by show 2 * 0 + _ ≤ _; exact Nat.le_of_eq rfl) (hb hby d5_28) (fun _ _ => ⟨rfl, e41, (by decide : 1 + 0 ≤ _), (by decide : 4 + 0 ≤ _)⟩)
  dsimp only [Pt.U, Pt.locs, Pt.cells, Pt.slots] at X52 l52 y52 z52 st52 hQ52
  subst l52 y52 z52
  obtain ⟨rfl, N52q, e52⟩ := hQ52
  have N52 := Fr.app N43 N52q
  have pre54 : ∀ t, Steps p.tables e below (T52.setTop (mkF m 32 #[rv u0, rv u1, iv p2, iv (own_ix z vs)] [])) t → Steps p.tables e below (s₁.setTop (entryFrame m #[(.ref u0), (.ref u1), (.int p2)] 4)) t := fun t kt => pre45 t (by
   show Steps _ _ _ (T41.setTop (mkF m 28 #[rv u0, rv u1, iv p2, .unset] [(.int (58 : Int32)), (.ref u1)])) _
   refine st52.trans ?_
   refine XS.istoreN X52.here hx rfl (hb hby d5_31) rfl (l' := #[rv u0, rv u1, iv p2, iv (own_ix z vs)]) rfl ?_
   exact kt)
  obtain ⟨r, e_r, hr⟩ : ∃ c_, (own_ix z vs) = c_ ∧ (c_ = (-1 : Int32) ∨ (¬ c_ < 0 ∧ c_ < z)) := ⟨_, rfl, own_ixr⟩
  rw [e_r] at pre54
  have Mg229 : ∃ (T229 : State) (L229 : List Loc), Stand p l e ({ frames := 6, cells := 13, slots := 108, locals := 94 } : Room) (s.setVm s.vm) m #[(.ref u0), (.ref u1), (.int p2)] below meth c T229 L229 1 4 ∧ Fr n0 L229 ∧ Keep h0 T229.heap [u0] ∧ CHr Z own_EL s.vm h0 s.vm T229.heap ∧ n0 ≤ T229.heap.size ∧ Exa Z T229.heap u0 "com/example/bundlewright/bundlewright/core/Name" ∧ Fld Z T229.heap u0 "com/example/bundlewright/bundlewright/core/Name" "ascii" "[B" (.ref ta_20) ∧ Fld Z T229.heap u0 "com/example/bundlewright/bundlewright/core/Name" "prefix" "Ljava/lang/String;" .null ∧ Fld Z T229.heap u0 "com/example/bundlewright/bundlewright/core/Name" "local" "Ljava/lang/String;" .null ∧ Fld Z T229.heap u0 "com/example/bundlewright/bundlewright/core/Name" "declared" "Ljava/lang/String;" .null ∧ Fld Z T229.heap u0 "com/example/bundlewright/bundlewright/core/Name" "reservedPrefix" "Z" (.int (0 : Int32)) ∧ Exa Z T229.heap u1 "java/lang/String" ∧ Fld Z T229.heap u1 "java/lang/String" "value" "[B" (.ref tv) ∧ Fld Z T229.heap u1 "java/lang/String" "coder" "B" (.int (0 : Int32)) ∧ Arv Z T229.heap tv kt .byte z vs (.int 0) ∧ Sta Z T229.heap "java/lang/String" "COMPACT_STRINGS" "Z" (.int zC) ∧ Sta Z T229.heap "jdk/internal/util/Preconditions" "SIOOBE_FORMATTER" "Ljava/util/function/BiFunction;" fv ∧ h0.size ≤ T229.heap.size ∧ Safe Z own_EL s.vm T229.heap u0 ∧ Exa Z T229.heap ta_20 "[B" ∧ Arv Z T229.heap ta_20 ka_20 .byte z vs (.int 0) ∧ (∀ t, Steps p.tables e below (T229.setTop (mkF m 84 #[rv u0, rv u1, iv p2, iv r] [])) t → Steps p.tables e below (s₁.setTop (entryFrame m #[(.ref u0), (.ref u1), (.int p2)] 4)) t) := by
    have pre56 : ∀ t, Steps p.tables e below (T52.setTop (mkF m 34 #[rv u0, rv u1, iv p2, iv r] [(.int r), (.ref u0)])) t → Steps p.tables e below (s₁.setTop (entryFrame m #[(.ref u0), (.ref u1), (.int p2)] 4)) t := fun t kt => pre54 t (by
     refine XS.aloadN X52.here hx rfl (hb hby d5_32) rfl rfl ?_
     refine XS.iloadN X52.here hx rfl (hb hby d5_33) rfl ?_
     exact kt)
    by_cases hc34_55 : r < (0 : Int32)
    · have f57 := (f38.wr W41)
      have f58 := ((((P_F_u0_Name_qualified.other W3 (Or.inr (slot_ne (Or.inr (own_g hw 114 rfl)) (Or.inr (own_g hw 36 rfl)) (by decide) (t := .boolean) (t' := (.object "java/lang/String")) (by decide) (by decide)))).keep K20 nin0).other W34 (Or.inr (slot_ne (Or.inr (own_g hw 114 rfl)) (Or.inr (own_g hw 76 rfl)) (by decide) (t := .boolean) (t' := (.array .byte)) (by decide) (by decide)))).other W41 (Or.inr (slot_ne (Or.inr (own_g hw 114 rfl)) (Or.inr (own_g hw 78 rfl)) (by decide) (t := .boolean) (t' := .int) (by decide) (by decide))))
      have f59 : Safe Z own_EL s.vm h41 u0 := (Safe.wr W41 f40 CH35.1 f40)
      obtain ⟨T60, h60, X60, e60, W60, st60⟩ := putFN X52 hx hZ hown (own_g hw 113 rfl) Via.refl e52 f58 f57 (Or.inr ⟨(own_g hw 114 rfl), rfl, hnm⟩) (own_g hw 29 rfl) (ty := .boolean) (v' := (.int (1 : Int32))) (by decide) rfl rfl (g := (mkF m 81 #[rv u0, rv u1, iv p2, iv r] [(.int (1 : Int32)), (.ref u0)])) rfl rfl (hb hby d5_81)
      have CH61 : CHr Z own_EL s.vm h0 s.vm h60 := CH42.trans (CHr.wr W60 f59 CH42.1)
      have f60_ : Fld Z h60 u0 "com/example/bundlewright/bundlewright/core/Name" "qualified" "Z" (.int (1 : Int32)) := f58.same W60
      have N62 := Fr.snoc X60 N52 g_u0
      have K63 : Keep h0 h60 [u0] := K44.wr W60 (Or.inl (List.mem_of_getElem? (i := 0) rfl))
      have pre64 : ∀ t, Steps p.tables e below (T60.setTop (mkF m 84 #[rv u0, rv u1, iv p2, iv r] [])) t → Steps p.tables e below (s₁.setTop (entryFrame m #[(.ref u0), (.ref u1), (.int p2)] 4)) t := fun t kt => pre56 t (by
       refine XS.ifYes X52.here hx rfl (pc0 := 34) (pc' := 76) rfl (hb hby d5_34) rfl ((if0 _ _).trans (tlt hc34_55).1) (by decide) (by decide) ?_
       refine XS.iconst X52.here hx rfl (hb hby d5_76) ?_
       refine XS.goto X52.here hx rfl (pc0 := 77) (pc' := 81) rfl (hb hby d5_77) (by decide) (by decide) ?_
       refine st60 _ ?_
       exact kt)
      have f65 := (Nat.le_trans f51 (Keep.of_wr W60).1)
      have f66 := (f57.wr W60)
      have f67 := ((f34_.other W41 (Or.inr (slot_ne (Or.inr (own_g hw 76 rfl)) (Or.inr (own_g hw 78 rfl)) (by decide) (t := (.array .byte)) (t' := .int) (by decide) (by decide)))).other W60 (Or.inr (slot_ne (Or.inr (own_g hw 76 rfl)) (Or.inr (own_g hw 114 rfl)) (by decide) (t := (.array .byte)) (t' := .boolean) (by decide) (by decide))))
      have f68 := (((((P_F_u0_Name_prefix.other W3 (Or.inr (slot_ne (Or.inr (own_g hw 117 rfl)) (Or.inr (own_g hw 36 rfl)) (by decide) (t := (.object "java/lang/String")) (t' := (.object "java/lang/String")) (by decide) (by decide)))).keep K20 nin0).other W34 (Or.inr (slot_ne (Or.inr (own_g hw 117 rfl)) (Or.inr (own_g hw 76 rfl)) (by decide) (t := (.object "java/lang/String")) (t' := (.array .byte)) (by decide) (by decide)))).other W41 (Or.inr (slot_ne (Or.inr (own_g hw 117 rfl)) (Or.inr (own_g hw 78 rfl)) (by decide) (t := (.object "java/lang/String")) (t' := .int) (by decide) (by decide)))).other W60 (Or.inr (slot_ne (Or.inr (own_g hw 117 rfl)) (Or.inr (own_g hw 114 rfl)) (by decide) (t := (.object "java/lang/String")) (t' := .boolean) (by decide) (by decide))))
      have f69 := (((((P_F_u0_Name_local.other W3 (Or.inr (slot_ne (Or.inr (own_g hw 119 rfl)) (Or.inr (own_g hw 36 rfl)) (by decide) (t := (.object "java/lang/String")) (t' := (.object "java/lang/String")) (by decide) (by decide)))).keep K20 nin0).other W34 (Or.inr (slot_ne (Or.inr (own_g hw 119 rfl)) (Or.inr (own_g hw 76 rfl)) (by decide) (t := (.object "java/lang/String")) (t' := (.array .byte)) (by decide) (by decide)))).other W41 (Or.inr (slot_ne (Or.inr (own_g hw 119 rfl)) (Or.inr (own_g hw 78 rfl)) (by decide) (t := (.object "java/lang/String")) (t' := .int) (by decide) (by decide)))).other W60 (Or.inr (slot_ne (Or.inr (own_g hw 119 rfl)) (Or.inr (own_g hw 114 rfl)) (by decide) (t := (.object "java/lang/String")) (t' := .boolean) (by decide) (by decide))))
      have f70 := (((((P_F_u0_Name_declared.other W3 (Or.inr (slot_ne (Or.inr (own_g hw 131 rfl)) (Or.inr (own_g hw 36 rfl)) (by decide) (t := (.object "java/lang/String")) (t' := (.object "java/lang/String")) (by decide) (by decide)))).keep K20 nin0).other W34 (Or.inr (slot_ne (Or.inr (own_g hw 131 rfl)) (Or.inr (own_g hw 76 rfl)) (by decide) (t := (.object "java/lang/String")) (t' := (.array .byte)) (by decide) (by decide)))).other W41 (Or.inr (slot_ne (Or.inr (own_g hw 131 rfl)) (Or.inr (own_g hw 78 rfl)) (by decide) (t := (.object "java/lang/String")) (t' := .int) (by decide) (by decide)))).other W60 (Or.inr (slot_ne (Or.inr (own_g hw 131 rfl)) (Or.inr (own_g hw 114 rfl)) (by decide) (t := (.object "java/lang/String")) (t' := .boolean) (by decide) (by decide))))
      have f71 := (((((P_F_u0_Name_reservedPrefix.other W3 (Or.inr (slot_ne (Or.inr (own_g hw 134 rfl)) (Or.inr (own_g hw 36 rfl)) (by decide) (t := .boolean) (t' := (.object "java/lang/String")) (by decide) (by decide)))).keep K20 nin0).other W34 (Or.inr (slot_ne (Or.inr (own_g hw 134 rfl)) (Or.inr (own_g hw 76 rfl)) (by decide) (t := .boolean) (t' := (.array .byte)) (by decide) (by decide)))).other W41 (Or.inr (slot_ne (Or.inr (own_g hw 134 rfl)) (Or.inr (own_g hw 78 rfl)) (by decide) (t := .boolean) (t' := .int) (by decide) (by decide)))).other W60 (Or.inr (slot_ne (Or.inr (own_g hw 134 rfl)) (Or.inr (own_g hw 114 rfl)) (by decide) (t := .boolean) (t' := .boolean) (by decide) (by decide))))
      have f72 := (f46.wr W60)
      have f73 := (f47.other W60 (Or.inl neS))
      have f74 := (f48.other W60 (Or.inl neS))
      have f75 := (f49.other W60 neT)
      have f76 := (f50.wr W60)
      have f77 := ((((own_staKeep (P_S_Preconditions_SIOOBE_FORMATTER.wr W3) K20 ns0).wr W34).wr W41).wr W60)
      have f78 := (Nat.le_trans (Nat.le_trans (Nat.le_trans (Nat.le_trans (Nat.le_trans (Nat.le_refl h0.size) (Keep.of_wr W3).1) K20.1) (Keep.of_wr W34).1) (Keep.of_wr W41).1) (Keep.of_wr W60).1)
      have f79 : Safe Z own_EL s.vm h60 u0 := (Safe.wr W60 f59 CH42.1 f59)
      have f80 := (((f24.wr W34).wr W41).wr W60)
      have f81 := (((f25.other W34 (Ne.symm ne26)).other W41 (Ne.symm ne26)).other W60 (Ne.symm ne26))
      exact ⟨T60, _, X60.more (by decide) (by decide), N62, (by rw [e60]; exact K63), (by rw [e60]; exact CH61), (by rw [e60]; exact f65), (by rw [e60]; exact f66), (by rw [e60]; exact f67), (by rw [e60]; exact f68), (by rw [e60]; exact f69), (by rw [e60]; exact f70), (by rw [e60]; exact f71), (by rw [e60]; exact f72), (by rw [e60]; exact f73), (by rw [e60]; exact f74), (by rw [e60]; exact f75), (by rw [e60]; exact f76), (by rw [e60]; exact f77), (by rw [e60]; exact f78), (by rw [e60]; exact f79), (by rw [e60]; exact f80), (by rw [e60]; exact f81), pre64⟩
    · have pre83 : ∀ t, Steps p.tables e below (T52.setTop (mkF m 38 #[rv u0, rv u1, iv p2, iv r] [(.int r), (.ref u0)])) t → Steps p.tables e below (s₁.setTop (entryFrame m #[(.ref u0), (.ref u1), (.int p2)] 4)) t := fun t kt => pre56 t (by
       refine XS.ifNo X52.here hx rfl (hb hby d5_34) rfl ((if0 _ _).trans (flt hc34_55).1) ?_
       refine XS.iloadN X52.here hx rfl (hb hby d5_37) rfl ?_
       exact kt)
      by_cases hc38_82 : (0 : Int32) < r
      · have pre84 : ∀ t, Steps p.tables e below (T52.setTop (mkF m 43 #[rv u0, rv u1, iv p2, iv r] [(.ref u1), (.int r), (.ref u0)])) t → Steps p.tables e below (s₁.setTop (entryFrame m #[(.ref u0), (.ref u1), (.int p2)] 4)) t := fun t kt => pre83 t (by
         refine XS.ifNo X52.here hx rfl (hb hby d5_38) rfl ((if0 _ _).trans (tlt hc38_82).2.2.2) ?_
         show Steps _ _ _ (T52.setTop (mkF m 41 #[rv u0, rv u1, iv p2, iv r] [(.ref u0)])) _
         refine XS.iloadN X52.here hx rfl (hb hby d5_41) rfl ?_
         refine XS.aloadN X52.here hx rfl (hb hby d5_42) rfl rfl ?_
         exact kt)
        obtain ⟨cq86, kq86, q86a, q86b, q86c⟩ := isOf hZ e52 f46
        obtain ⟨_, _, ⟨T85, L85, k85, n85⟩, -, X85, ⟨Lc85, hQ85, l85, y85, z85⟩, st85⟩ := X52.virtualBack hx (y := own_y8) (z := own_y8) hown (mvT hZ (own_g hw 153 rfl)) (mvT hZ (own_g hw 95 rfl)) (notFace_of_selects (args := #[]) (mvT hZ (own_g hw 97 rfl))) (mvT hZ (own_g hw 97 rfl)) (mvT hZ (own_g hw 96 rfl)) (by decide) (backOf (W := 2) (rmLe l Z a0 hw [] u1 tv kt z vs zC h41 n0 f51 f46 f47 f48 f49 f50 hz) hZ (own_g hw 98 rfl) (own_g hw 8 rfl) (by decide) (by decide)) q86a q86c (g := (mkF m 43 #[rv u0, rv u1, iv p2, iv r] [(.ref u1), (.int r), (.ref u0)])) rfl (by rw [hml]; rfl) (Steps.refl _) (argsL := []) (rest := [(.int r), (.ref u0)]) (lenOf pd___I rfl) rfl (by show 2 * 0 + _ ≤ _; exact Nat.le_of_eq rfl) (hb hby d5_43) (fun _ _ => ⟨rfl, e52, (by decide : 1 + 0 ≤ _), (by decide : 4 + 0 ≤ _)⟩)
        dsimp only [Pt.U, Pt.locs, Pt.cells, Pt.slots] at X85 l85 y85 z85 st85 hQ85
        subst l85 y85 z85
        obtain ⟨rfl, N85q, e85⟩ := hQ85
        have N85 := Fr.app N52 N85q
        have pre88 : ∀ t, Steps p.tables e below (T85.setTop (mkF m 48 #[rv u0, rv u1, iv p2, iv r] [(.int (z - (1 : Int32))), (.int r), (.ref u0)])) t → Steps p.tables e below (s₁.setTop (entryFrame m #[(.ref u0), (.ref u1), (.int p2)] 4)) t := fun t kt => pre84 t (by
         show Steps _ _ _ (T52.setTop (mkF m 43 #[rv u0, rv u1, iv p2, iv r] [(.ref u1), (.int r), (.ref u0)])) _
         refine st85.trans ?_
         refine XS.iconst X85.here hx rfl (hb hby d5_46) ?_
         refine XS.isub X85.here hx rfl (hb hby d5_47) rfl ?_
         exact kt)
        by_cases hc48_87 : r < (z - (1 : Int32))
        · have pre89 : ∀ t, Steps p.tables e below (T85.setTop (mkF m 57 #[rv u0, rv u1, iv p2, iv r] [(.int (r + (1 : Int32))), (.int (58 : Int32)), (.ref u1), (.ref u0)])) t → Steps p.tables e below (s₁.setTop (entryFrame m #[(.ref u0), (.ref u1), (.int p2)] 4)) t := fun t kt => pre88 t (by
           refine XS.icmpNo X85.here hx rfl (hb hby d5_48) rfl (tlt hc48_87).2.1 ?_
           refine XS.aloadN X85.here hx rfl (hb hby d5_51) rfl rfl ?_
           refine XS.bipush X85.here hx rfl (hb hby d5_52) ?_
           refine XS.iloadN X85.here hx rfl (hb hby d5_54) rfl ?_
           refine XS.iconst X85.here hx rfl (hb hby d5_55) ?_
           refine XS.iadd X85.here hx rfl (hb hby d5_56) rfl ?_
           exact kt)
          obtain ⟨cq91, kq91, q91a, q91b, q91c⟩ := isOf hZ e85 f46
          obtain ⟨_, _, ⟨T90, L90, k90, n90⟩, -, X90, ⟨Lc90, hQ90, l90, y90, z90⟩, st90⟩ := X85.virtualBack hx (y := own_y19) (z := own_y19) hown (mvT hZ (own_g hw 196 rfl)) (mvT hZ (own_g hw 85 rfl)) (notFace_of_selects (args := #[]) (mvT hZ (own_g hw 87 rfl))) (mvT hZ (own_g hw 87 rfl)) (mvT hZ (own_g hw 86 rfl)) (by decide) (backOf (W := 1) (rmI2b l Z a0 hw [] u1 (r + (1 : Int32)) tv kt z vs zC h41 n0 f51 f46 f47 f48 f49 hz4 (own_q1 hr hc38_82 hc48_87 hz4).1 (own_q1 hr hc38_82 hc48_87 hz4).2 f50 hz) hZ (own_g hw 88 rfl) (own_g hw 8 rfl) (by decide) (by decide)) q91a q91c (g := (mkF m 57 #[rv u0, rv u1, iv p2, iv r] [(.int (r + (1 : Int32))), (.int (58 : Int32)), (.ref u1), (.ref u0)])) rfl (by rw [hml]; rfl) (Steps.refl _) (argsL := [(.int (58 : Int32)), (.int (r + (1 : Int32)))]) (rest := [(.ref u0)]) (lenOf pd__II_I rfl) rfl (by show 2 * 0 + _ ≤ _; exact Nat.le_of_eq rfl) (hb hby d5_57) (fun _ _ => ⟨rfl, e85, (by decide : 1 + 0 ≤ _), (by decide : 4 + 0 ≤ _)⟩)
          dsimp only [Pt.U, Pt.locs, Pt.cells, Pt.slots] at X90 l90 y90 z90 st90 hQ90
          subst l90 y90 z90
          obtain ⟨rfl, N90q, e90⟩ := hQ90
          have N90 := Fr.app N85 N90q
          have pre93 : ∀ t, Steps p.tables e below (T90.setTop (mkF m 60 #[rv u0, rv u1, iv p2, iv r] [(.int (own_iy (r + (1 : Int32)) z vs)), (.ref u0)])) t → Steps p.tables e below (s₁.setTop (entryFrame m #[(.ref u0), (.ref u1), (.int p2)] 4)) t := fun t kt => pre89 t (by
           show Steps _ _ _ (T85.setTop (mkF m 57 #[rv u0, rv u1, iv p2, iv r] [(.int (r + (1 : Int32))), (.int (58 : Int32)), (.ref u1), (.ref u0)])) _
           refine st90.trans ?_
           exact kt)
          by_cases hc60_92 : (own_iy (r + (1 : Int32)) z vs) < (0 : Int32)
          · have pre94 : ∀ t, Steps p.tables e below (T90.setTop (mkF m 67 #[rv u0, rv u1, iv p2, iv r] [(.int (r + (1 : Int32))), (.ref u1), (.ref u0)])) t → Steps p.tables e below (s₁.setTop (entryFrame m #[(.ref u0), (.ref u1), (.int p2)] 4)) t := fun t kt => pre93 t (by
             refine XS.ifNo X90.here hx rfl (hb hby d5_60) rfl ((if0 _ _).trans (tlt hc60_92).2.1) ?_
             refine XS.aloadN X90.here hx rfl (hb hby d5_63) rfl rfl ?_
             refine XS.iloadN X90.here hx rfl (hb hby d5_64) rfl ?_
             refine XS.iconst X90.here hx rfl (hb hby d5_65) ?_
             refine XS.iadd X90.here hx rfl (hb hby d5_66) rfl ?_
             exact kt)
            have f95 := (((own_staKeep (P_S_Preconditions_SIOOBE_FORMATTER.wr W3) K20 ns0).wr W34).wr W41)
            obtain ⟨cq97, kq97, q97a, q97b, q97c⟩ := isOf hZ e90 f46
            obtain ⟨_, _, ⟨T96, L96, k96, n96⟩, -, X96, ⟨Lc96, hQ96, l96, y96, z96⟩, st96⟩ := X90.virtualBack hx (y := own_y22) (z := own_y22) hown (mvT hZ (own_g hw 197 rfl)) (mvT hZ (own_g hw 198 rfl)) (notFace_of_selects (args := #[]) (mvT hZ (own_g hw 200 rfl))) (mvT hZ (own_g hw 200 rfl)) (mvT hZ (own_g hw 199 rfl)) (by decide) (backOf (W := 1) (rmCA l Z a0 hw [] u1 (r + (1 : Int32)) tv kt z vs zC fv h41 n0 f51 f46 f47 f48 f49 f50 hz f95 hfv (own_nlt (own_q1 hr hc38_82 hc48_87 hz4).1) (own_q1 hr hc38_82 hc48_87 hz4).2) hZ (own_g hw 201 rfl) (own_g hw 8 rfl) (by decide) (by decide)) q97a q97c (g := (mkF m 67 #[rv u0, rv u1, iv p2, iv r] [(.int (r + (1 : Int32))), (.ref u1), (.ref u0)])) rfl (by rw [hml]; rfl) (Steps.refl _) (argsL := [(.int (r + (1 : Int32)))]) (rest := [(.ref u0)]) (lenOf pd__I_C rfl) rfl (by show 2 * 0 + _ ≤ _; exact Nat.le_of_eq rfl) (hb hby d5_67) (fun _ _ => ⟨rfl, e90, (by decide : 1 + 0 ≤ _), (by decide : 4 + 0 ≤ _)⟩)
            dsimp only [Pt.U, Pt.locs, Pt.cells, Pt.slots] at X96 l96 y96 z96 st96 hQ96
            subst l96 y96 z96
            obtain ⟨rfl, N96q, e96⟩ := hQ96
            have N96 := Fr.app N90 N96q
            have pre98 : ∀ t, Steps p.tables e below (T96.setTop (mkF m 70 #[rv u0, rv u1, iv p2, iv r] [(.int (nar .char (own_ch (own_at vs (r + (1 : Int32)))))), (.ref u0)])) t → Steps p.tables e below (s₁.setTop (entryFrame m #[(.ref u0), (.ref u1), (.int p2)] 4)) t := fun t kt => pre94 t (by
             show Steps _ _ _ (T90.setTop (mkF m 67 #[rv u0, rv u1, iv p2, iv r] [(.int (r + (1 : Int32))), (.ref u1), (.ref u0)])) _
             refine st96.trans ?_
             exact kt)
            have f99 := (((own_staKeep (P_S_Name_KIND.wr W3) K20 ns0).wr W34).wr W41)
            have f100 := (((f23.keep K20 nin0).other W34 neK).other W41 neK)
            obtain ⟨_, _, ⟨T101, L101, k101, n101⟩, -, X101, ⟨Lc101, hQ101, l101, y101, z101⟩, st101⟩ := Jvm.LawKit.callS X96 hx (y := own_y23) hown (mvT hZ (own_g hw 211 rfl)) (mvT hZ (own_g hw 212 rfl)) (mvT hZ (own_g hw 30 rfl)) (mvT hZ (own_g hw 213 rfl)) (by decide) (backOf (W := 1) (rmNS l Z a0 hw [] (nar .char (own_ch (own_at vs (r + (1 : Int32))))) kd kK vK h41 n0 f51 f99 f100) hZ (own_g hw 213 rfl) (own_g hw 30 rfl) (by decide) (by decide)) (g := (mkF m 70 #[rv u0, rv u1, iv p2, iv r] [(.int (nar .char (own_ch (own_at vs (r + (1 : Int32)))))), (.ref u0)])) rfl (by rw [hml]; rfl) (argsL := [(.int (nar .char (own_ch (own_at vs (r + (1 : Int32))))))]) (rest := [(.ref u0)]) (lenOf pd__I_Z rfl) rfl (by show 2 * 0 + _ ≤ _; exact Nat.le_of_eq rfl) (hb hby d5_70) (fun _ _ => ⟨rfl, e96, (by decide : 1 + 0 ≤ _), (by decide : 4 + 0 ≤ _)⟩)
            dsimp only [Pt.U, Pt.locs, Pt.cells, Pt.slots] at X101 l101 y101 z101 st101 hQ101
            subst l101 y101 z101
            obtain ⟨rfl, N101q, e101⟩ := hQ101
            have N101 := Fr.app N96 N101q
            have pre103 : ∀ t, Steps p.tables e below (T101.setTop (mkF m 73 #[rv u0, rv u1, iv p2, iv r] [(.int (own_ns vK (nar .char (own_ch (own_at vs (r + (1 : Int32))))))), (.ref u0)])) t → Steps p.tables e below (s₁.setTop (entryFrame m #[(.ref u0), (.ref u1), (.int p2)] 4)) t := fun t kt => pre98 t (by
             show Steps _ _ _ (T96.setTop (mkF m 70 #[rv u0, rv u1, iv p2, iv r] [(.int (nar .char (own_ch (own_at vs (r + (1 : Int32)))))), (.ref u0)])) _
             refine st101 _ ?_
             exact kt)
            by_cases hc73_102 : (own_ns vK (nar .char (own_ch (own_at vs (r + (1 : Int32)))))) = (0 : Int32)
            · have f104 := (f38.wr W41)
              have f105 := ((((P_F_u0_Name_qualified.other W3 (Or.inr (slot_ne (Or.inr (own_g hw 114 rfl)) (Or.inr (own_g hw 36 rfl)) (by decide) (t := .boolean) (t' := (.object "java/lang/String")) (by decide) (by decide)))).keep K20 nin0).other W34 (Or.inr (slot_ne (Or.inr (own_g hw 114 rfl)) (Or.inr (own_g hw 76 rfl)) (by decide) (t := .boolean) (t' := (.array .byte)) (by decide) (by decide)))).other W41 (Or.inr (slot_ne (Or.inr (own_g hw 114 rfl)) (Or.inr (own_g hw 78 rfl)) (by decide) (t := .boolean) (t' := .int) (by decide) (by decide))))
              have f106 : Safe Z own_EL s.vm h41 u0 := (Safe.wr W41 f40 CH35.1 f40)
              obtain ⟨T107, h107, X107, e107, W107, st107⟩ := putFN X101 hx hZ hown (own_g hw 113 rfl) Via.refl e101 f105 f104 (Or.inr ⟨(own_g hw 114 rfl), rfl, hnm⟩) (own_g hw 29 rfl) (ty := .boolean) (v' := (.int (0 : Int32))) (by decide) rfl rfl (g := (mkF m 81 #[rv u0, rv u1, iv p2, iv r] [(.int (0 : Int32)), (.ref u0)])) rfl rfl (hb hby d5_81)
              have CH108 : CHr Z own_EL s.vm h0 s.vm h107 := CH42.trans (CHr.wr W107 f106 CH42.1)
              have f107_ : Fld Z h107 u0 "com/example/bundlewright/bundlewright/core/Name" "qualified" "Z" (.int (0 : Int32)) := f105.same W107
              have N109 := Fr.snoc X107 N101 g_u0
              have K110 : Keep h0 h107 [u0] := K44.wr W107 (Or.inl (List.mem_of_getElem? (i := 0) rfl))
              have pre111 : ∀ t, Steps p.tables e below (T107.setTop (mkF m 84 #[rv u0, rv u1, iv p2, iv r] [])) t → Steps p.tables e below (s₁.setTop (entryFrame m #[(.ref u0), (.ref u1), (.int p2)] 4)) t := fun t kt => pre103 t (by
               refine XS.ifYes X101.here hx rfl (pc0 := 73) (pc' := 80) rfl (hb hby d5_73) rfl ((if0 _ _).trans (teq hc73_102).1) (by decide) (by decide) ?_
               refine XS.iconst X101.here hx rfl (hb hby d5_80) ?_
               refine st107 _ ?_
               exact kt)
              have f112 := (Nat.le_trans f51 (Keep.of_wr W107).1)
              have f113 := (f104.wr W107)
              have f114 := ((f34_.other W41 (Or.inr (slot_ne (Or.inr (own_g hw 76 rfl)) (Or.inr (own_g hw 78 rfl)) (by decide) (t := (.array .byte)) (t' := .int) (by decide) (by decide)))).other W107 (Or.inr (slot_ne (Or.inr (own_g hw 76 rfl)) (Or.inr (own_g hw 114 rfl)) (by decide) (t := (.array .byte)) (t' := .boolean) (by decide) (by decide))))
              have f115 := (((((P_F_u0_Name_prefix.other W3 (Or.inr (slot_ne (Or.inr (own_g hw 117 rfl)) (Or.inr (own_g hw 36 rfl)) (by decide) (t := (.object "java/lang/String")) (t' := (.object "java/lang/String")) (by decide) (by decide)))).keep K20 nin0).other W34 (Or.inr (slot_ne (Or.inr (own_g hw 117 rfl)) (Or.inr (own_g hw 76 rfl)) (by decide) (t := (.object "java/lang/String")) (t' := (.array .byte)) (by decide) (by decide)))).other W41 (Or.inr (slot_ne (Or.inr (own_g hw 117 rfl)) (Or.inr (own_g hw 78 rfl)) (by decide) (t := (.object "java/lang/String")) (t' := .int) (by decide) (by decide)))).other W107 (Or.inr (slot_ne (Or.inr (own_g hw 117 rfl)) (Or.inr (own_g hw 114 rfl)) (by decide) (t := (.object "java/lang/String")) (t' := .boolean) (by decide) (by decide))))
              have f116 := (((((P_F_u0_Name_local.other W3 (Or.inr (slot_ne (Or.inr (own_g hw 119 rfl)) (Or.inr (own_g hw 36 rfl)) (by decide) (t := (.object "java/lang/String")) (t' := (.object "java/lang/String")) (by decide) (by decide)))).keep K20 nin0).other W34 (Or.inr (slot_ne (Or.inr (own_g hw 119 rfl)) (Or.inr (own_g hw 76 rfl)) (by decide) (t := (.object "java/lang/String")) (t' := (.array .byte)) (by decide) (by decide)))).other W41 (Or.inr (slot_ne (Or.inr (own_g hw 119 rfl)) (Or.inr (own_g hw 78 rfl)) (by decide) (t := (.object "java/lang/String")) (t' := .int) (by decide) (by decide)))).other W107 (Or.inr (slot_ne (Or.inr (own_g hw 119 rfl)) (Or.inr (own_g hw 114 rfl)) (by decide) (t := (.object "java/lang/String")) (t' := .boolean) (by decide) (by decide))))
              have f117 := (((((P_F_u0_Name_declared.other W3 (Or.inr (slot_ne (Or.inr (own_g hw 131 rfl)) (Or.inr (own_g hw 36 rfl)) (by decide) (t := (.object "java/lang/String")) (t' := (.object "java/lang/String")) (by decide) (by decide)))).keep K20 nin0).other W34 (Or.inr (slot_ne (Or.inr (own_g hw 131 rfl)) (Or.inr (own_g hw 76 rfl)) (by decide) (t := (.object "java/lang/String")) (t' := (.array .byte)) (by decide) (by decide)))).other W41 (Or.inr (slot_ne (Or.inr (own_g hw 131 rfl)) (Or.inr (own_g hw 78 rfl)) (by decide) (t := (.object "java/lang/String")) (t' := .int) (by decide) (by decide)))).other W107 (Or.inr (slot_ne (Or.inr (own_g hw 131 rfl)) (Or.inr (own_g hw 114 rfl)) (by decide) (t := (.object "java/lang/String")) (t' := .boolean) (by decide) (by decide))))
              have f118 := (((((P_F_u0_Name_reservedPrefix.other W3 (Or.inr (slot_ne (Or.inr (own_g hw 134 rfl)) (Or.inr (own_g hw 36 rfl)) (by decide) (t := .boolean) (t' := (.object "java/lang/String")) (by decide) (by decide)))).keep K20 nin0).other W34 (Or.inr (slot_ne (Or.inr (own_g hw 134 rfl)) (Or.inr (own_g hw 76 rfl)) (by decide) (t := .boolean) (t' := (.array .byte)) (by decide) (by decide)))).other W41 (Or.inr (slot_ne (Or.inr (own_g hw 134 rfl)) (Or.inr (own_g hw 78 rfl)) (by decide) (t := .boolean) (t' := .int) (by decide) (by decide)))).other W107 (Or.inr (slot_ne (Or.inr (own_g hw 134 rfl)) (Or.inr (own_g hw 114 rfl)) (by decide) (t := .boolean) (t' := .boolean) (by decide) (by decide))))
              have f119 := (f46.wr W107)
              have f120 := (f47.other W107 (Or.inl neS))
              have f121 := (f48.other W107 (Or.inl neS))
              have f122 := (f49.other W107 neT)
              have f123 := (f50.wr W107)
              have f124 := (f95.wr W107)
              have f125 := (Nat.le_trans (Nat.le_trans (Nat.le_trans (Nat.le_trans (Nat.le_trans (Nat.le_refl h0.size) (Keep.of_wr W3).1) K20.1) (Keep.of_wr W34).1) (Keep.of_wr W41).1) (Keep.of_wr W107).1)
              have f126 : Safe Z own_EL s.vm h107 u0 := (Safe.wr W107 f106 CH42.1 f106)
              have f127 := (((f24.wr W34).wr W41).wr W107)
              have f128 := (((f25.other W34 (Ne.symm ne26)).other W41 (Ne.symm ne26)).other W107 (Ne.symm ne26))
              exact ⟨T107, _, X107.more (by decide) (by decide), N109, (by rw [e107]; exact K110), (by rw [e107]; exact CH108), (by rw [e107]; exact f112), (by rw [e107]; exact f113), (by rw [e107]; exact f114), (by rw [e107]; exact f115), (by rw [e107]; exact f116), (by rw [e107]; exact f117), (by rw [e107]; exact f118), (by rw [e107]; exact f119), (by rw [e107]; exact f120), (by rw [e107]; exact f121), (by rw [e107]; exact f122), (by rw [e107]; exact f123), (by rw [e107]; exact f124), (by rw [e107]; exact f125), (by rw [e107]; exact f126), (by rw [e107]; exact f127), (by rw [e107]; exact f128), pre111⟩
            · have f129 := (f38.wr W41)
              have f130 := ((((P_F_u0_Name_qualified.other W3 (Or.inr (slot_ne (Or.inr (own_g hw 114 rfl)) (Or.inr (own_g hw 36 rfl)) (by decide) (t := .boolean) (t' := (.object "java/lang/String")) (by decide) (by decide)))).keep K20 nin0).other W34 (Or.inr (slot_ne (Or.inr (own_g hw 114 rfl)) (Or.inr (own_g hw 76 rfl)) (by decide) (t := .boolean) (t' := (.array .byte)) (by decide) (by decide)))).other W41 (Or.inr (slot_ne (Or.inr (own_g hw 114 rfl)) (Or.inr (own_g hw 78 rfl)) (by decide) (t := .boolean) (t' := .int) (by decide) (by decide))))
              have f131 : Safe Z own_EL s.vm h41 u0 := (Safe.wr W41 f40 CH35.1 f40)
              obtain ⟨T132, h132, X132, e132, W132, st132⟩ := putFN X101 hx hZ hown (own_g hw 113 rfl) Via.refl e101 f130 f129 (Or.inr ⟨(own_g hw 114 rfl), rfl, hnm⟩) (own_g hw 29 rfl) (ty := .boolean) (v' := (.int (1 : Int32))) (by decide) rfl rfl (g := (mkF m 81 #[rv u0, rv u1, iv p2, iv r] [(.int (1 : Int32)), (.ref u0)])) rfl rfl (hb hby d5_81)
              have CH133 : CHr Z own_EL s.vm h0 s.vm h132 := CH42.trans (CHr.wr W132 f131 CH42.1)
              have f132_ : Fld Z h132 u0 "com/example/bundlewright/bundlewright/core/Name" "qualified" "Z" (.int (1 : Int32)) := f130.same W132
              have N134 := Fr.snoc X132 N101 g_u0
              have K135 : Keep h0 h132 [u0] := K44.wr W132 (Or.inl (List.mem_of_getElem? (i := 0) rfl))
              have pre136 : ∀ t, Steps p.tables e below (T132.setTop (mkF m 84 #[rv u0, rv u1, iv p2, iv r] [])) t → Steps p.tables e below (s₁.setTop (entryFrame m #[(.ref u0), (.ref u1), (.int p2)] 4)) t := fun t kt => pre103 t (by
               refine XS.ifNo X101.here hx rfl (hb hby d5_73) rfl ((if0 _ _).trans (feq hc73_102).1) ?_
               refine XS.iconst X101.here hx rfl (hb hby d5_76) ?_
               refine XS.goto X101.here hx rfl (pc0 := 77) (pc' := 81) rfl (hb hby d5_77) (by decide) (by decide) ?_
               refine st132 _ ?_
               exact kt)
              have f137 := (Nat.le_trans f51 (Keep.of_wr W132).1)
              have f138 := (f129.wr W132)
              have f139 := ((f34_.other W41 (Or.inr (slot_ne (Or.inr (own_g hw 76 rfl)) (Or.inr (own_g hw 78 rfl)) (by decide) (t := (.array .byte)) (t' := .int) (by decide) (by decide)))).other W132 (Or.inr (slot_ne (Or.inr (own_g hw 76 rfl)) (Or.inr (own_g hw 114 rfl)) (by decide) (t := (.array .byte)) (t' := .boolean) (by decide) (by decide))))
              have f140 := (((((P_F_u0_Name_prefix.other W3 (Or.inr (slot_ne (Or.inr (own_g hw 117 rfl)) (Or.inr (own_g hw 36 rfl)) (by decide) (t := (.object "java/lang/String")) (t' := (.object "java/lang/String")) (by decide) (by decide)))).keep K20 nin0).other W34 (Or.inr (slot_ne (Or.inr (own_g hw 117 rfl)) (Or.inr (own_g hw 76 rfl)) (by decide) (t := (.object "java/lang/String")) (t' := (.array .byte)) (by decide) (by decide)))).other W41 (Or.inr (slot_ne (Or.inr (own_g hw 117 rfl)) (Or.inr (own_g hw 78 rfl)) (by decide) (t := (.object "java/lang/String")) (t' := .int) (by decide) (by decide)))).other W132 (Or.inr (slot_ne (Or.inr (own_g hw 117 rfl)) (Or.inr (own_g hw 114 rfl)) (by decide) (t := (.object "java/lang/String")) (t' := .boolean) (by decide) (by decide))))
              have f141 := (((((P_F_u0_Name_local.other W3 (Or.inr (slot_ne (Or.inr (own_g hw 119 rfl)) (Or.inr (own_g hw 36 rfl)) (by decide) (t := (.object "java/lang/String")) (t' := (.object "java/lang/String")) (by decide) (by decide)))).keep K20 nin0).other W34 (Or.inr (slot_ne (Or.inr (own_g hw 119 rfl)) (Or.inr (own_g hw 76 rfl)) (by decide) (t := (.object "java/lang/String")) (t' := (.array .byte)) (by decide) (by decide)))).other W41 (Or.inr (slot_ne (Or.inr (own_g hw 119 rfl)) (Or.inr (own_g hw 78 rfl)) (by decide) (t := (.object "java/lang/String")) (t' := .int) (by decide) (by decide)))).other W132 (Or.inr (slot_ne (Or.inr (own_g hw 119 rfl)) (Or.inr (own_g hw 114 rfl)) (by decide) (t := (.object "java/lang/String")) (t' := .boolean) (by decide) (by decide))))
              have f142 := (((((P_F_u0_Name_declared.other W3 (Or.inr (slot_ne (Or.inr (own_g hw 131 rfl)) (Or.inr (own_g hw 36 rfl)) (by decide) (t := (.object "java/lang/String")) (t' := (.object "java/lang/String")) (by decide) (by decide)))).keep K20 nin0).other W34 (Or.inr (slot_ne (Or.inr (own_g hw 131 rfl)) (Or.inr (own_g hw 76 rfl)) (by decide) (t := (.object "java/lang/String")) (t' := (.array .byte)) (by decide) (by decide)))).other W41 (Or.inr (slot_ne (Or.inr (own_g hw 131 rfl)) (Or.inr (own_g hw 78 rfl)) (by decide) (t := (.object "java/lang/String")) (t' := .int) (by decide) (by decide)))).other W132 (Or.inr (slot_ne (Or.inr (own_g hw 131 rfl)) (Or.inr (own_g hw 114 rfl)) (by decide) (t := (.object "java/lang/String")) (t' := .boolean) (by decide) (by decide))))
              have f143 := (((((P_F_u0_Name_reservedPrefix.other W3 (Or.inr (slot_ne (Or.inr (own_g hw 134 rfl)) (Or.inr (own_g hw 36 rfl)) (by decide) (t := .boolean) (t' := (.object "java/lang/String")) (by decide) (by decide)))).keep K20 nin0).other W34 (Or.inr (slot_ne (Or.inr (own_g hw 134 rfl)) (Or.inr (own_g hw 76 rfl)) (by decide) (t := .boolean) (t' := (.array .byte)) (by decide) (by decide)))).other W41 (Or.inr (slot_ne (Or.inr (own_g hw 134 rfl)) (Or.inr (own_g hw 78 rfl)) (by decide) (t := .boolean) (t' := .int) (by decide) (by decide)))).other W132 (Or.inr (slot_ne (Or.inr (own_g hw 134 rfl)) (Or.inr (own_g hw 114 rfl)) (by decide) (t := .boolean) (t' := .boolean) (by decide) (by decide))))
              have f144 := (f46.wr W132)
              have f145 := (f47.other W132 (Or.inl neS))
              have f146 := (f48.other W132 (Or.inl neS))
              have f147 := (f49.other W132 neT)
              have f148 := (f50.wr W132)
              have f149 := (f95.wr W132)
              have f150 := (Nat.le_trans (Nat.le_trans (Nat.le_trans (Nat.le_trans (Nat.le_trans (Nat.le_refl h0.size) (Keep.of_wr W3).1) K20.1) (Keep.of_wr W34).1) (Keep.of_wr W41).1) (Keep.of_wr W132).1)
              have f151 : Safe Z own_EL s.vm h132 u0 := (Safe.wr W132 f131 CH42.1 f131)
              have f152 := (((f24.wr W34).wr W41).wr W132)
              have f153 := (((f25.other W34 (Ne.symm ne26)).other W41 (Ne.symm ne26)).other W132 (Ne.symm ne26))
              exact ⟨T132, _, X132.more (by decide) (by decide), N134, (by rw [e132]; exact K135), (by rw [e132]; exact CH133), (by rw [e132]; exact f137), (by rw [e132]; exact f138), (by rw [e132]; exact f139), (by rw [e132]; exact f140), (by rw [e132]; exact f141), (by rw [e132]; exact f142), (by rw [e132]; exact f143), (by rw [e132]; exact f144), (by rw [e132]; exact f145), (by rw [e132]; exact f146), (by rw [e132]; exact f147), (by rw [e132]; exact f148), (by rw [e132]; exact f149), (by rw [e132]; exact f150), (by rw [e132]; exact f151), (by rw [e132]; exact f152), (by rw [e132]; exact f153), pre136⟩
          · have f154 := (f38.wr W41)
            have f155 := ((((P_F_u0_Name_qualified.other W3 (Or.inr (slot_ne (Or.inr (own_g hw 114 rfl)) (Or.inr (own_g hw 36 rfl)) (by decide) (t := .boolean) (t' := (.object "java/lang/String")) (by decide) (by decide)))).keep K20 nin0).other W34 (Or.inr (slot_ne (Or.inr (own_g hw 114 rfl)) (Or.inr (own_g hw 76 rfl)) (by decide) (t := .boolean) (t' := (.array .byte)) (by decide) (by decide)))).other W41 (Or.inr (slot_ne (Or.inr (own_g hw 114 rfl)) (Or.inr (own_g hw 78 rfl)) (by decide) (t := .boolean) (t' := .int) (by decide) (by decide))))
            have f156 : Safe Z own_EL s.vm h41 u0 := (Safe.wr W41 f40 CH35.1 f40)
            obtain ⟨T157, h157, X157, e157, W157, st157⟩ := putFN X90 hx hZ hown (own_g hw 113 rfl) Via.refl e90 f155 f154 (Or.inr ⟨(own_g hw 114 rfl), rfl, hnm⟩) (own_g hw 29 rfl) (ty := .boolean) (v' := (.int (0 : Int32))) (by decide) rfl rfl (g := (mkF m 81 #[rv u0, rv u1, iv p2, iv r] [(.int (0 : Int32)), (.ref u0)])) rfl rfl (hb hby d5_81)
            have CH158 : CHr Z own_EL s.vm h0 s.vm h157 := CH42.trans (CHr.wr W157 f156 CH42.1)
            have f157_ : Fld Z h157 u0 "com/example/bundlewright/bundlewright/core/Name" "qualified" "Z" (.int (0 : Int32)) := f155.same W157
            have N159 := Fr.snoc X157 N90 g_u0
            have K160 : Keep h0 h157 [u0] := K44.wr W157 (Or.inl (List.mem_of_getElem? (i := 0) rfl))
            have pre161 : ∀ t, Steps p.tables e below (T157.setTop (mkF m 84 #[rv u0, rv u1, iv p2, iv r] [])) t → Steps p.tables e below (s₁.setTop (entryFrame m #[(.ref u0), (.ref u1), (.int p2)] 4)) t := fun t kt => pre93 t (by
             refine XS.ifYes X90.here hx rfl (pc0 := 60) (pc' := 80) rfl (hb hby d5_60) rfl ((if0 _ _).trans (flt hc60_92).2.1) (by decide) (by decide) ?_
             refine XS.iconst X90.here hx rfl (hb hby d5_80) ?_
             show Steps _ _ _ (T90.setTop (mkF m 81 #[rv u0, rv u1, iv p2, iv r] [(.int (0 : Int32)), (.ref u0)])) _
             refine st157 _ ?_
             exact kt)
            have f162 := (Nat.le_trans f51 (Keep.of_wr W157).1)
            have f163 := (f154.wr W157)
            have f164 := ((f34_.other W41 (Or.inr (slot_ne (Or.inr (own_g hw 76 rfl)) (Or.inr (own_g hw 78 rfl)) (by decide) (t := (.array .byte)) (t' := .int) (by decide) (by decide)))).other W157 (Or.inr (slot_ne (Or.inr (own_g hw 76 rfl)) (Or.inr (own_g hw 114 rfl)) (by decide) (t := (.array .byte)) (t' := .boolean) (by decide) (by decide))))
            have f165 := (((((P_F_u0_Name_prefix.other W3 (Or.inr (slot_ne (Or.inr (own_g hw 117 rfl)) (Or.inr (own_g hw 36 rfl)) (by decide) (t := (.object "java/lang/String")) (t' := (.object "java/lang/String")) (by decide) (by decide)))).keep K20 nin0).other W34 (Or.inr (slot_ne (Or.inr (own_g hw 117 rfl)) (Or.inr (own_g hw 76 rfl)) (by decide) (t := (.object "java/lang/String")) (t' := (.array .byte)) (by decide) (by decide)))).other W41 (Or.inr (slot_ne (Or.inr (own_g hw 117 rfl)) (Or.inr (own_g hw 78 rfl)) (by decide) (t := (.object "java/lang/String")) (t' := .int) (by decide) (by decide)))).other W157 (Or.inr (slot_ne (Or.inr (own_g hw 117 rfl)) (Or.inr (own_g hw 114 rfl)) (by decide) (t := (.object "java/lang/String")) (t' := .boolean) (by decide) (by decide))))
            have f166 := (((((P_F_u0_Name_local.other W3 (Or.inr (slot_ne (Or.inr (own_g hw 119 rfl)) (Or.inr (own_g hw 36 rfl)) (by decide) (t := (.object "java/lang/String")) (t' := (.object "java/lang/String")) (by decide) (by decide)))).keep K20 nin0).other W34 (Or.inr (slot_ne (Or.inr (own_g hw 119 rfl)) (Or.inr (own_g hw 76 rfl)) (by decide) (t := (.object "java/lang/String")) (t' := (.array .byte)) (by decide) (by decide)))).other W41 (Or.inr (slot_ne (Or.inr (own_g hw 119 rfl)) (Or.inr (own_g hw 78 rfl)) (by decide) (t := (.object "java/lang/String")) (t' := .int) (by decide) (by decide)))).other W157 (Or.inr (slot_ne (Or.inr (own_g hw 119 rfl)) (Or.inr (own_g hw 114 rfl)) (by decide) (t := (.object "java/lang/String")) (t' := .boolean) (by decide) (by decide))))
            have f167 := (((((P_F_u0_Name_declared.other W3 (Or.inr (slot_ne (Or.inr (own_g hw 131 rfl)) (Or.inr (own_g hw 36 rfl)) (by decide) (t := (.object "java/lang/String")) (t' := (.object "java/lang/String")) (by decide) (by decide)))).keep K20 nin0).other W34 (Or.inr (slot_ne (Or.inr (own_g hw 131 rfl)) (Or.inr (own_g hw 76 rfl)) (by decide) (t := (.object "java/lang/String")) (t' := (.array .byte)) (by decide) (by decide)))).other W41 (Or.inr (slot_ne (Or.inr (own_g hw 131 rfl)) (Or.inr (own_g hw 78 rfl)) (by decide) (t := (.object "java/lang/String")) (t' := .int) (by decide) (by decide)))).other W157 (Or.inr (slot_ne (Or.inr (own_g hw 131 rfl)) (Or.inr (own_g hw 114 rfl)) (by decide) (t := (.object "java/lang/String")) (t' := .boolean) (by decide) (by decide))))
            have f168 := (((((P_F_u0_Name_reservedPrefix.other W3 (Or.inr (slot_ne (Or.inr (own_g hw 134 rfl)) (Or.inr (own_g hw 36 rfl)) (by decide) (t := .boolean) (t' := (.object "java/lang/String")) (by decide) (by decide)))).keep K20 nin0).other W34 (Or.inr (slot_ne (Or.inr (own_g hw 134 rfl)) (Or.inr (own_g hw 76 rfl)) (by decide) (t := .boolean) (t' := (.array .byte)) (by decide) (by decide)))).other W41 (Or.inr (slot_ne (Or.inr (own_g hw 134 rfl)) (Or.inr (own_g hw 78 rfl)) (by decide) (t := .boolean) (t' := .int) (by decide) (by decide)))).other W157 (Or.inr (slot_ne (Or.inr (own_g hw 134 rfl)) (Or.inr (own_g hw 114 rfl)) (by decide) (t := .boolean) (t' := .boolean) (by decide) (by decide))))
            have f169 := (f46.wr W157)
            have f170 := (f47.other W157 (Or.inl neS))
            have f171 := (f48.other W157 (Or.inl neS))
            have f172 := (f49.other W157 neT)
            have f173 := (f50.wr W157)
            have f174 := ((((own_staKeep (P_S_Preconditions_SIOOBE_FORMATTER.wr W3) K20 ns0).wr W34).wr W41).wr W157)
            have f175 := (Nat.le_trans (Nat.le_trans (Nat.le_trans (Nat.le_trans (Nat.le_trans (Nat.le_refl h0.size) (Keep.of_wr W3).1) K20.1) (Keep.of_wr W34).1) (Keep.of_wr W41).1) (Keep.of_wr W157).1)
            have f176 : Safe Z own_EL s.vm h157 u0 := (Safe.wr W157 f156 CH42.1 f156)
            have f177 := (((f24.wr W34).wr W41).wr W157)
            have f178 := (((f25.other W34 (Ne.symm ne26)).other W41 (Ne.symm ne26)).other W157 (Ne.symm ne26))
            exact ⟨T157, _, X157.more (by decide) (by decide), N159, (by rw [e157]; exact K160), (by rw [e157]; exact CH158), (by rw [e157]; exact f162), (by rw [e157]; exact f163), (by rw [e157]; exact f164), (by rw [e157]; exact f165), (by rw [e157]; exact f166), (by rw [e157]; exact f167), (by rw [e157]; exact f168), (by rw [e157]; exact f169), (by rw [e157]; exact f170), (by rw [e157]; exact f171), (by rw [e157]; exact f172), (by rw [e157]; exact f173), (by rw [e157]; exact f174), (by rw [e157]; exact f175), (by rw [e157]; exact f176), (by rw [e157]; exact f177), (by rw [e157]; exact f178), pre161⟩
        · have f179 := (f38.wr W41)
          have f180 := ((((P_F_u0_Name_qualified.other W3 (Or.inr (slot_ne (Or.inr (own_g hw 114 rfl)) (Or.inr (own_g hw 36 rfl)) (by decide) (t := .boolean) (t' := (.object "java/lang/String")) (by decide) (by decide)))).keep K20 nin0).other W34 (Or.inr (slot_ne (Or.inr (own_g hw 114 rfl)) (Or.inr (own_g hw 76 rfl)) (by decide) (t := .boolean) (t' := (.array .byte)) (by decide) (by decide)))).other W41 (Or.inr (slot_ne (Or.inr (own_g hw 114 rfl)) (Or.inr (own_g hw 78 rfl)) (by decide) (t := .boolean) (t' := .int) (by decide) (by decide))))
          have f181 : Safe Z own_EL s.vm h41 u0 := (Safe.wr W41 f40 CH35.1 f40)
          obtain ⟨T182, h182, X182, e182, W182, st182⟩ := putFN X85 hx hZ hown (own_g hw 113 rfl) Via.refl e85 f180 f179 (Or.inr ⟨(own_g hw 114 rfl), rfl, hnm⟩) (own_g hw 29 rfl) (ty := .boolean) (v' := (.int (0 : Int32))) (by decide) rfl rfl (g := (mkF m 81 #[rv u0, rv u1, iv p2, iv r] [(.int (0 : Int32)), (.ref u0)])) rfl rfl (hb hby d5_81)
          have CH183 : CHr Z own_EL s.vm h0 s.vm h182 := CH42.trans (CHr.wr W182 f181 CH42.1)
          have f182_ : Fld Z h182 u0 "com/example/bundlewright/bundlewright/core/Name" "qualified" "Z" (.int (0 : Int32)) := f180.same W182
          have N184 := Fr.snoc X182 N85 g_u0
          have K185 : Keep h0 h182 [u0] := K44.wr W182 (Or.inl (List.mem_of_getElem? (i := 0) rfl))
          have pre186 : ∀ t, Steps p.tables e below (T182.setTop (mkF m 84 #[rv u0, rv u1, iv p2, iv r] [])) t → Steps p.tables e below (s₁.setTop (entryFrame m #[(.ref u0), (.ref u1), (.int p2)] 4)) t := fun t kt => pre88 t (by
           refine XS.icmpYes X85.here hx rfl (pc0 := 48) (pc' := 80) rfl (hb hby d5_48) rfl (flt hc48_87).2.1 (by decide) (by decide) ?_
           refine XS.iconst X85.here hx rfl (hb hby d5_80) ?_
           refine st182 _ ?_
           exact kt)
          have f187 := (Nat.le_trans f51 (Keep.of_wr W182).1)
          have f188 := (f179.wr W182)
          have f189 := ((f34_.other W41 (Or.inr (slot_ne (Or.inr (own_g hw 76 rfl)) (Or.inr (own_g hw 78 rfl)) (by decide) (t := (.array .byte)) (t' := .int) (by decide) (by decide)))).other W182 (Or.inr (slot_ne (Or.inr (own_g hw 76 rfl)) (Or.inr (own_g hw 114 rfl)) (by decide) (t := (.array .byte)) (t' := .boolean) (by decide) (by decide))))
          have f190 := (((((P_F_u0_Name_prefix.other W3 (Or.inr (slot_ne (Or.inr (own_g hw 117 rfl)) (Or.inr (own_g hw 36 rfl)) (by decide) (t := (.object "java/lang/String")) (t' := (.object "java/lang/String")) (by decide) (by decide)))).keep K20 nin0).other W34 (Or.inr (slot_ne (Or.inr (own_g hw 117 rfl)) (Or.inr (own_g hw 76 rfl)) (by decide) (t := (.object "java/lang/String")) (t' := (.array .byte)) (by decide) (by decide)))).other W41 (Or.inr (slot_ne (Or.inr (own_g hw 117 rfl)) (Or.inr (own_g hw 78 rfl)) (by decide) (t := (.object "java/lang/String")) (t' := .int) (by decide) (by decide)))).other W182 (Or.inr (slot_ne (Or.inr (own_g hw 117 rfl)) (Or.inr (own_g hw 114 rfl)) (by decide) (t := (.object "java/lang/String")) (t' := .boolean) (by decide) (by decide))))
          have f191 := (((((P_F_u0_Name_local.other W3 (Or.inr (slot_ne (Or.inr (own_g hw 119 rfl)) (Or.inr (own_g hw 36 rfl)) (by decide) (t := (.object "java/lang/String")) (t' := (.object "java/lang/String")) (by decide) (by decide)))).keep K20 nin0).other W34 (Or.inr (slot_ne (Or.inr (own_g hw 119 rfl)) (Or.inr (own_g hw 76 rfl)) (by decide) (t := (.object "java/lang/String")) (t' := (.array .byte)) (by decide) (by decide)))).other W41 (Or.inr (slot_ne (Or.inr (own_g hw 119 rfl)) (Or.inr (own_g hw 78 rfl)) (by decide) (t := (.object "java/lang/String")) (t' := .int) (by decide) (by decide)))).other W182 (Or.inr (slot_ne (Or.inr (own_g hw 119 rfl)) (Or.inr (own_g hw 114 rfl)) (by decide) (t := (.object "java/lang/String")) (t' := .boolean) (by decide) (by decide))))
          have f192 := (((((P_F_u0_Name_declared.other W3 (Or.inr (slot_ne (Or.inr (own_g hw 131 rfl)) (Or.inr (own_g hw 36 rfl)) (by decide) (t := (.object "java/lang/String")) (t' := (.object "java/lang/String")) (by decide) (by decide)))).keep K20 nin0).other W34 (Or.inr (slot_ne (Or.inr (own_g hw 131 rfl)) (Or.inr (own_g hw 76 rfl)) (by decide) (t := (.object "java/lang/String")) (t' := (.array .byte)) (by decide) (by decide)))).other W41 (Or.inr (slot_ne (Or.inr (own_g hw 131 rfl)) (Or.inr (own_g hw 78 rfl)) (by decide) (t := (.object "java/lang/String")) (t' := .int) (by decide) (by decide)))).other W182 (Or.inr (slot_ne (Or.inr (own_g hw 131 rfl)) (Or.inr (own_g hw 114 rfl)) (by decide) (t := (.object "java/lang/String")) (t' := .boolean) (by decide) (by decide))))
          have f193 := (((((P_F_u0_Name_reservedPrefix.other W3 (Or.inr (slot_ne (Or.inr (own_g hw 134 rfl)) (Or.inr (own_g hw 36 rfl)) (by decide) (t := .boolean) (t' := (.object "java/lang/String")) (by decide) (by decide)))).keep K20 nin0).other W34 (Or.inr (slot_ne (Or.inr (own_g hw 134 rfl)) (Or.inr (own_g hw 76 rfl)) (by decide) (t := .boolean) (t' := (.array .byte)) (by decide) (by decide)))).other W41 (Or.inr (slot_ne (Or.inr (own_g hw 134 rfl)) (Or.inr (own_g hw 78 rfl)) (by decide) (t := .boolean) (t' := .int) (by decide) (by decide)))).other W182 (Or.inr (slot_ne (Or.inr (own_g hw 134 rfl)) (Or.inr (own_g hw 114 rfl)) (by decide) (t := .boolean) (t' := .boolean) (by decide) (by decide))))
          have f194 := (f46.wr W182)
          have f195 := (f47.other W182 (Or.inl neS))
          have f196 := (f48.other W182 (Or.inl neS))
          have f197 := (f49.other W182 neT)
          have f198 := (f50.wr W182)
          have f199 := ((((own_staKeep (P_S_Preconditions_SIOOBE_FORMATTER.wr W3) K20 ns0).wr W34).wr W41).wr W182)
          have f200 := (Nat.le_trans (Nat.le_trans (Nat.le_trans (Nat.le_trans (Nat.le_trans (Nat.le_refl h0.size) (Keep.of_wr W3).1) K20.1) (Keep.of_wr W34).1) (Keep.of_wr W41).1) (Keep.of_wr W182).1)
          have f201 : Safe Z own_EL s.vm h182 u0 := (Safe.wr W182 f181 CH42.1 f181)
          have f202 := (((f24.wr W34).wr W41).wr W182)
          have f203 := (((f25.other W34 (Ne.symm ne26)).other W41 (Ne.symm ne26)).other W182 (Ne.symm ne26))
          exact ⟨T182, _, X182.more (by decide) (by decide), N184, (by rw [e182]; exact K185), (by rw [e182]; exact CH183), (by rw [e182]; exact f187), (by rw [e182]; exact f188), (by rw [e182]; exact f189), (by rw [e182]; exact f190), (by rw [e182]; exact f191), (by rw [e182]; exact f192), (by rw [e182]; exact f193), (by rw [e182]; exact f194), (by rw [e182]; exact f195), (by rw [e182]; exact f196), (by rw [e182]; exact f197), (by rw [e182]; exact f198), (by rw [e182]; exact f199), (by rw [e182]; exact f200), (by rw [e182]; exact f201), (by rw [e182]; exact f202), (by rw [e182]; exact f203), pre186⟩
      · have f204 := (f38.wr W41)
        have f205 := ((((P_F_u0_Name_qualified.other W3 (Or.inr (slot_ne (Or.inr (own_g hw 114 rfl)) (Or.inr (own_g hw 36 rfl)) (by decide) (t := .boolean) (t' := (.object "java/lang/String")) (by decide) (by decide)))).keep K20 nin0).other W34 (Or.inr (slot_ne (Or.inr (own_g hw 114 rfl)) (Or.inr (own_g hw 76 rfl)) (by decide) (t := .boolean) (t' := (.array .byte)) (by decide) (by decide)))).other W41 (Or.inr (slot_ne (Or.inr (own_g hw 114 rfl)) (Or.inr (own_g hw 78 rfl)) (by decide) (t := .boolean) (t' := .int) (by decide) (by decide))))
        have f206 : Safe Z own_EL s.vm h41 u0 := (Safe.wr W41 f40 CH35.1 f40)
        obtain ⟨T207, h207, X207, e207, W207, st207⟩ := putFN X52 hx hZ hown (own_g hw 113 rfl) Via.refl e52 f205 f204 (Or.inr ⟨(own_g hw 114 rfl), rfl, hnm⟩) (own_g hw 29 rfl) (ty := .boolean) (v' := (.int (0 : Int32))) (by decide) rfl rfl (g := (mkF m 81 #[rv u0, rv u1, iv p2, iv r] [(.int (0 : Int32)), (.ref u0)])) rfl rfl (hb hby d5_81)
        have CH208 : CHr Z own_EL s.vm h0 s.vm h207 := CH42.trans (CHr.wr W207 f206 CH42.1)
        have f207_ : Fld Z h207 u0 "com/example/bundlewright/bundlewright/core/Name" "qualified" "Z" (.int (0 : Int32)) := f205.same W207
        have N209 := Fr.snoc X207 N52 g_u0
        have K210 : Keep h0 h207 [u0] := K44.wr W207 (Or.inl (List.mem_of_getElem? (i := 0) rfl))
        have pre211 : ∀ t, Steps p.tables e below (T207.setTop (mkF m 84 #[rv u0, rv u1, iv p2, iv r] [])) t → Steps p.tables e below (s₁.setTop (entryFrame m #[(.ref u0), (.ref u1), (.int p2)] 4)) t := fun t kt => pre83 t (by
         refine XS.ifYes X52.here hx rfl (pc0 := 38) (pc' := 80) rfl (hb hby d5_38) rfl ((if0 _ _).trans (flt hc38_82).2.2.2) (by decide) (by decide) ?_
         refine XS.iconst X52.here hx rfl (hb hby d5_80) ?_
         refine st207 _ ?_
         exact kt)
        have f212 := (Nat.le_trans f51 (Keep.of_wr W207).1)
        have f213 := (f204.wr W207)
        have f214 := ((f34_.other W41 (Or.inr (slot_ne (Or.inr (own_g hw 76 rfl)) (Or.inr (own_g hw 78 rfl)) (by decide) (t := (.array .byte)) (t' := .int) (by decide) (by decide)))).other W207 (Or.inr (slot_ne (Or.inr (own_g hw 76 rfl)) (Or.inr (own_g hw 114 rfl)) (by decide) (t := (.array .byte)) (t' := .boolean) (by decide) (by decide))))
        have f215 := (((((P_F_u0_Name_prefix.other W3 (Or.inr (slot_ne (Or.inr (own_g hw 117 rfl)) (Or.inr (own_g hw 36 rfl)) (by decide) (t := (.object "java/lang/String")) (t' := (.object "java/lang/String")) (by decide) (by decide)))).keep K20 nin0).other W34 (Or.inr (slot_ne (Or.inr (own_g hw 117 rfl)) (Or.inr (own_g hw 76 rfl)) (by decide) (t := (.object "java/lang/String")) (t' := (.array .byte)) (by decide) (by decide)))).other W41 (Or.inr (slot_ne (Or.inr (own_g hw 117 rfl)) (Or.inr (own_g hw 78 rfl)) (by decide) (t := (.object "java/lang/String")) (t' := .int) (by decide) (by decide)))).other W207 (Or.inr (slot_ne (Or.inr (own_g hw 117 rfl)) (Or.inr (own_g hw 114 rfl)) (by decide) (t := (.object "java/lang/String")) (t' := .boolean) (by decide) (by decide))))
        have f216 := (((((P_F_u0_Name_local.other W3 (Or.inr (slot_ne (Or.inr (own_g hw 119 rfl)) (Or.inr (own_g hw 36 rfl)) (by decide) (t := (.object "java/lang/String")) (t' := (.object "java/lang/String")) (by decide) (by decide)))).keep K20 nin0).other W34 (Or.inr (slot_ne (Or.inr (own_g hw 119 rfl)) (Or.inr (own_g hw 76 rfl)) (by decide) (t := (.object "java/lang/String")) (t' := (.array .byte)) (by decide) (by decide)))).other W41 (Or.inr (slot_ne (Or.inr (own_g hw 119 rfl)) (Or.inr (own_g hw 78 rfl)) (by decide) (t := (.object "java/lang/String")) (t' := .int) (by decide) (by decide)))).other W207 (Or.inr (slot_ne (Or.inr (own_g hw 119 rfl)) (Or.inr (own_g hw 114 rfl)) (by decide) (t := (.object "java/lang/String")) (t' := .boolean) (by decide) (by decide))))
        have f217 := (((((P_F_u0_Name_declared.other W3 (Or.inr (slot_ne (Or.inr (own_g hw 131 rfl)) (Or.inr (own_g hw 36 rfl)) (by decide) (t := (.object "java/lang/String")) (t' := (.object "java/lang/String")) (by decide) (by decide)))).keep K20 nin0).other W34 (Or.inr (slot_ne (Or.inr (own_g hw 131 rfl)) (Or.inr (own_g hw 76 rfl)) (by decide) (t := (.object "java/lang/String")) (t' := (.array .byte)) (by decide) (by decide)))).other W41 (Or.inr (slot_ne (Or.inr (own_g hw 131 rfl)) (Or.inr (own_g hw 78 rfl)) (by decide) (t := (.object "java/lang/String")) (t' := .int) (by decide) (by decide)))).other W207 (Or.inr (slot_ne (Or.inr (own_g hw 131 rfl)) (Or.inr (own_g hw 114 rfl)) (by decide) (t := (.object "java/lang/String")) (t' := .boolean) (by decide) (by decide))))
        have f218 := (((((P_F_u0_Name_reservedPrefix.other W3 (Or.inr (slot_ne (Or.inr (own_g hw 134 rfl)) (Or.inr (own_g hw 36 rfl)) (by decide) (t := .boolean) (t' := (.object "java/lang/String")) (by decide) (by decide)))).keep K20 nin0).other W34 (Or.inr (slot_ne (Or.inr (own_g hw 134 rfl)) (Or.inr (own_g hw 76 rfl)) (by decide) (t := .boolean) (t' := (.array .byte)) (by decide) (by decide)))).other W41 (Or.inr (slot_ne (Or.inr (own_g hw 134 rfl)) (Or.inr (own_g hw 78 rfl)) (by decide) (t := .boolean) (t' := .int) (by decide) (by decide)))).other W207 (Or.inr (slot_ne (Or.inr (own_g hw 134 rfl)) (Or.inr (own_g hw 114 rfl)) (by decide) (t := .boolean) (t' := .boolean) (by decide) (by decide))))
        have f219 := (f46.wr W207)
        have f220 := (f47.other W207 (Or.inl neS))
        have f221 := (f48.other W207 (Or.inl neS))
        have f222 := (f49.other W207 neT)
        have f223 := (f50.wr W207)
        have f224 := ((((own_staKeep (P_S_Preconditions_SIOOBE_FORMATTER.wr W3) K20 ns0).wr W34).wr W41).wr W207)
        have f225 := (Nat.le_trans (Nat.le_trans (Nat.le_trans (Nat.le_trans (Nat.le_trans (Nat.le_refl h0.size) (Keep.of_wr W3).1) K20.1) (Keep.of_wr W34).1) (Keep.of_wr W41).1) (Keep.of_wr W207).1)
        have f226 : Safe Z own_EL s.vm h207 u0 := (Safe.wr W207 f206 CH42.1 f206)
        have f227 := (((f24.wr W34).wr W41).wr W207)
        have f228 := (((f25.other W34 (Ne.symm ne26)).other W41 (Ne.symm ne26)).other W207 (Ne.symm ne26))
        exact ⟨T207, _, X207.more (by decide) (by decide), N209, (by rw [e207]; exact K210), (by rw [e207]; exact CH208), (by rw [e207]; exact f212), (by rw [e207]; exact f213), (by rw [e207]; exact f214), (by rw [e207]; exact f215), (by rw [e207]; exact f216), (by rw [e207]; exact f217), (by rw [e207]; exact f218), (by rw [e207]; exact f219), (by rw [e207]; exact f220), (by rw [e207]; exact f221), (by rw [e207]; exact f222), (by rw [e207]; exact f223), (by rw [e207]; exact f224), (by rw [e207]; exact f225), (by rw [e207]; exact f226), (by rw [e207]; exact f227), (by rw [e207]; exact f228), pre211⟩
  obtain ⟨T229, L229, X229, N229, K229, CH229, f230, f231, f232, f233, f234, f235, f236, f237, f238, f239, f240, f241, f242, f243, f244, f245, f246, pre229⟩ := Mg229
  have Mg363 : ∃ (T363 : State) (L363 : List Loc) (x363_L3 : Int32) (vm363 : Vm) (kx363 : Nat) (sgx : Addr) (yx : Addr) (kyx : ClassId) (zx : Int32) (ysx : List Value), Stand p l e ({ frames := 6, cells := 13, slots := 108, locals := 94 } : Room) (s.setVm vm363) m #[(.ref u0), (.ref u1), (.int p2)] below meth c T363 L363 3 12 ∧ Fr n0 L363 ∧ Keep h0 T363.heap [u0] ∧ CHr Z own_EL s.vm h0 vm363 T363.heap ∧ n0 ≤ T363.heap.size ∧ Exa Z T363.heap u0 "com/example/bundlewright/bundlewright/core/Name" ∧ Fld Z T363.heap u0 "com/example/bundlewright/bundlewright/core/Name" "ascii" "[B" (.ref ta_20) ∧ Fld Z T363.heap u0 "com/example/bundlewright/bundlewright/core/Name" "local" "Ljava/lang/String;" .null ∧ Fld Z T363.heap u0 "com/example/bundlewright/bundlewright/core/Name" "declared" "Ljava/lang/String;" .null ∧ Fld Z T363.heap u0 "com/example/bundlewright/bundlewright/core/Name" "reservedPrefix" "Z" (.int (0 : Int32)) ∧ Exa Z T363.heap u1 "java/lang/String" ∧ Fld Z T363.heap u1 "java/lang/String" "value" "[B" (.ref tv) ∧ Fld Z T363.heap u1 "java/lang/String" "coder" "B" (.int (0 : Int32)) ∧ Arv Z T363.heap tv kt .byte z vs (.int 0) ∧ Sta Z T363.heap "java/lang/String" "COMPACT_STRINGS" "Z" (.int zC) ∧ Sta Z T363.heap "jdk/internal/util/Preconditions" "SIOOBE_FORMATTER" "Ljava/util/function/BiFunction;" fv ∧ kx363 ≤ T363.heap.size ∧ Safe Z own_EL vm363 T363.heap u0 ∧ Exa Z T363.heap ta_20 "[B" ∧ Arv Z T363.heap ta_20 ka_20 .byte z vs (.int 0) ∧ Z.Warmed39 (s.setVm vm363).vm ∧ (s.setVm vm363).vm.findClass "com/example/bundlewright/bundlewright/core/Name" = some m.cls ∧ s.Since vm363 kx363 ∧ Exa Z T363.heap sgx "java/lang/String" ∧ Fld Z T363.heap sgx "java/lang/String" "value" "[B" (.ref yx) ∧ Fld Z T363.heap sgx "java/lang/String" "coder" "B" (.int (0 : Int32)) ∧ Arv Z T363.heap yx kyx .byte zx ysx (.int 0) ∧ Fld Z T363.heap u0 "com/example/bundlewright/bundlewright/core/Name" "prefix" "Ljava/lang/String;" (.ref sgx) ∧ (¬ (4 : Int32) < zx) ∧ (sgx ≠ u0 ∧ yx ≠ u0) ∧ x363_L3 = r ∧ (∀ t, Steps p.tables e below (T363.setTop (mkF m 103 #[rv u0, rv u1, iv p2, iv x363_L3] [])) t → Steps p.tables e below (s₁.setTop (entryFrame m #[(.ref u0), (.ref u1), (.int p2)] 4)) t) := by
    have pre248 : ∀ t, Steps p.tables e below (T229.setTop (mkF m 86 #[rv u0, rv u1, iv p2, iv r] [(.int r), (.ref u0)])) t → Steps p.tables e below (s₁.setTop (entryFrame m #[(.ref u0), (.ref u1), (.int p2)] 4)) t := fun t kt => pre229 t (by
     refine XS.aloadN X229.here hx rfl (hb hby d5_84) rfl rfl ?_
     refine XS.iloadN X229.here hx rfl (hb hby d5_85) rfl ?_
     exact kt)
    by_cases hc86_247 : r < (0 : Int32)
    · have pre249 : ∀ t, Steps p.tables e below (T229.setTop (mkF m 89 #[rv u0, rv u1, iv p2, iv r] [(.ref u0)])) t → Steps p.tables e below (s₁.setTop (entryFrame m #[(.ref u0), (.ref u1), (.int p2)] 4)) t := fun t kt => pre248 t (by
       refine XS.ifNo X229.here hx rfl (hb hby d5_86) rfl ((if0 _ _).trans (tlt hc86_247).2.1) ?_
       exact kt)
      obtain ⟨a250, T250, h250, kk250, b250, kc250, X250, e250, E250, hS250, hk250, hZ250, hown250, Ea250, Ca250, Va250, Aa250, la250, lb250, CHq250, Lt250, nx250, st250⟩ := ldcCH (vs := []) (z := (0 : Int32)) (show Stand p l e ({ frames := 6, cells := 13, slots := 108, locals := 94 } : Room) (s.setVm s.vm) m _ below meth c _ _ _ _ from X229) hx hZ hown (own_g hw 115 rfl) wS rfl hS0 f243 hEL (List.mem_of_getElem? (i := 0) rfl) CH229.1 ⟨by decide, rfl⟩ (by decide) rfl (g := (mkF m 89 #[rv u0, rv u1, iv p2, iv r] [(.ref u0)])) rfl (hb hby d5_89) (n := 0) (by decide) (by decide) (by decide) (by decide)
      have K250 : Keep h0 h250 [u0] := K229.ext E250
      have CH251 : CHr Z own_EL s.vm h0 T250.vm h250 := CH229.trans CHq250
      have Yr252 : Safe Z own_EL T250.vm h250 u0 := CHr.safe CHq250 f231.lt f244
      have Qb250 : Exa Z h250 b250 "[B" := own_litB hZ250.alike Aa250 (Classical.byContradiction fun S_ => (nx250 b250 S_).2 rfl)
      have f253 := (f231.ext E250)
      have f254 := (f233.ext E250)
      obtain ⟨T255, h255, X255, e255, W255, st255⟩ := putF X250 hx hZ250 hown250 (host := "") (Or.inl (own_g hw 116 rfl)) Via.refl e250 f254 f253 (Or.inr ⟨(own_g hw 117 rfl), rfl, hnm⟩) (own_g hw 29 rfl) (ty := (.object "java/lang/String")) (by decide) rfl rfl (g := (mkF m 100 #[rv u0, rv u1, iv p2, iv r] [(.ref a250), (.ref u0)])) rfl rfl (hb hby d5_100)
      have CH256 : CHr Z own_EL s.vm h0 T250.vm h255 := CH251.trans (CHr.wr W255 Yr252 CH251.1)
      have f255_ : Fld Z h255 u0 "com/example/bundlewright/bundlewright/core/Name" "prefix" "Ljava/lang/String;" (.ref a250) := f254.same W255
      have N257 := Fr.snoc X255 N229 g_u0
      have K258 : Keep h0 h255 [u0] := K250.wr W255 (Or.inl (List.mem_of_getElem? (i := 0) rfl))
      have pre259 : ∀ t, Steps p.tables e below (T255.setTop (mkF m 103 #[rv u0, rv u1, iv p2, iv r] [])) t → Steps p.tables e below (s₁.setTop (entryFrame m #[(.ref u0), (.ref u1), (.int p2)] 4)) t := fun t kt => pre249 t (by
       refine st250 _ ?_
       refine XS.goto X250.here hx rfl (pc0 := 91) (pc' := 100) rfl (hb hby d5_91) (by decide) (by decide) ?_
       refine st255 _ ?_
       exact kt)
      have f260 := (Nat.le_trans (Nat.le_trans f230 E250.1) (Keep.of_wr W255).1)
      have f261 := (f253.wr W255)
      have f262 := ((f232.ext E250).other W255 (Or.inr (slot_ne (Or.inr (own_g hw 76 rfl)) (Or.inr (own_g hw 117 rfl)) (by decide) (t := (.array .byte)) (t' := (.object "java/lang/String")) (by decide) (by decide))))
      have f263 := ((f234.ext E250).other W255 (Or.inr (slot_ne (Or.inr (own_g hw 119 rfl)) (Or.inr (own_g hw 117 rfl)) (by decide) (t := (.object "java/lang/String")) (t' := (.object "java/lang/String")) (by decide) (by decide))))
      have f264 := ((f235.ext E250).other W255 (Or.inr (slot_ne (Or.inr (own_g hw 131 rfl)) (Or.inr (own_g hw 117 rfl)) (by decide) (t := (.object "java/lang/String")) (t' := (.object "java/lang/String")) (by decide) (by decide))))
      have f265 := ((f236.ext E250).other W255 (Or.inr (slot_ne (Or.inr (own_g hw 134 rfl)) (Or.inr (own_g hw 117 rfl)) (by decide) (t := .boolean) (t' := (.object "java/lang/String")) (by decide) (by decide))))
      have f266 := ((f237.ext E250).wr W255)
      have f267 := ((f238.ext E250).other W255 (Or.inl neS))
      have f268 := ((f239.ext E250).other W255 (Or.inl neS))
      have f269 := ((f240.ext E250).other W255 neT)
      have f270 := ((f241.ext E250).wr W255)
      have f271 := ((f242.ext E250).wr W255)
      have f272 := (Nat.le_trans hk250 (Keep.of_wr W255).1)
      have f273 : Safe Z own_EL T250.vm h255 u0 := (Safe.wr W255 Yr252 CH251.1 Yr252)
      have f274 := ((f245.ext E250).wr W255)
      have f275 := ((f246.ext E250).other W255 (Ne.symm ne26))
      have f276 := (Ea250.wr W255)
      have f277 := (Va250.other W255 (Or.inl (Ne.symm (nx250 u0 Yr252).1)))
      have f278 := (Ca250.other W255 (Or.inl (Ne.symm (nx250 u0 Yr252).1)))
      have f279 := (Aa250.other W255 (Ne.symm (nx250 u0 Yr252).2))
      exact ⟨T255, _, r, T250.vm, kk250, a250, b250, kc250, (0 : Int32), [], X255.more (by decide) (by decide), N257, (by rw [e255]; exact K258), (by rw [e255]; exact CH256), (by rw [e255]; exact f260), (by rw [e255]; exact f261), (by rw [e255]; exact f262), (by rw [e255]; exact f263), (by rw [e255]; exact f264), (by rw [e255]; exact f265), (by rw [e255]; exact f266), (by rw [e255]; exact f267), (by rw [e255]; exact f268), (by rw [e255]; exact f269), (by rw [e255]; exact f270), (by rw [e255]; exact f271), (by rw [e255]; exact f272), (by rw [e255]; exact f273), (by rw [e255]; exact f274), (by rw [e255]; exact f275), hZ250, hown250, hS250, (by rw [e255]; exact f276), (by rw [e255]; exact f277), (by rw [e255]; exact f278), (by rw [e255]; exact f279), (by rw [e255]; exact f255_), (by decide), ⟨(Ne.symm (nx250 u0 Yr252).1), (Ne.symm (nx250 u0 Yr252).2)⟩, rfl, pre259⟩
    · have pre281 : ∀ t, Steps p.tables e below (T229.setTop (mkF m 97 #[rv u0, rv u1, iv p2, iv r] [(.int r), (.int (0 : Int32)), (.ref u1), (.ref u0)])) t → Steps p.tables e below (s₁.setTop (entryFrame m #[(.ref u0), (.ref u1), (.int p2)] 4)) t := fun t kt => pre248 t (by
       refine XS.ifYes X229.here hx rfl (pc0 := 86) (pc' := 94) rfl (hb hby d5_86) rfl ((if0 _ _).trans (flt hc86_247).2.1) (by decide) (by decide) ?_
       refine XS.aloadN X229.here hx rfl (hb hby d5_94) rfl rfl ?_
       refine XS.iconst X229.here hx rfl (hb hby d5_95) ?_
       refine XS.iloadN X229.here hx rfl (hb hby d5_96) rfl ?_
       exact kt)
      by_cases hc97_280 : r = (0 : Int32)
      · rw [hc97_280] at pre281
        obtain ⟨cq283, kq283, q283a, q283b, q283c⟩ := isOf hZ rfl f237
        obtain ⟨_, _, ⟨T282, L282, k282, n282⟩, -, Xw282, hSw282, gr282, ⟨Lc282, hQ282, l282, y282, z282, CHq282⟩, st282⟩ := X229.virtualBackS hx (y := own_y34) (z := own_y34) hown (mvT hZ (own_g hw 154 rfl)) (mvT hZ (own_g hw 155 rfl)) (notFace_of_selects (args := #[]) (mvT hZ (own_g hw 157 rfl))) (mvT hZ (own_g hw 157 rfl)) (mvT hZ (own_g hw 156 rfl)) (by decide) (backOfSH (W := 1) (rmS20 l Z a0 hw [] u1 (0 : Int32) tv kt z vs zC fv u0 T229.heap n0 f230 f237 f238 f239 f240 hz4 f241 hz f242 hfv (by decide) (own_q3 hr hc86_247).1 (fun _ => (own_q3 hr hc86_247).2) f231) hZ (own_g hw 158 rfl) (own_g hw 8 rfl) (by decide) (by decide) hEL CH229.1) q283a q283c (g := (mkF m 97 #[rv u0, rv u1, iv p2, iv (0 : Int32)] [(.int (0 : Int32)), (.int (0 : Int32)), (.ref u1), (.ref u0)])) rfl (by rw [hml]; rfl) (Steps.refl _) (argsL := [(.int (0 : Int32)), (.int (0 : Int32))]) (rest := [(.ref u0)]) (lenOf pd__II_Ljava_lang_String_ rfl) rfl (by show 2 * 0 + _ ≤ _; exact Nat.le_of_eq rfl) (hb hby d5_97) (fun _ _ => ⟨rfl, rfl, (by decide : 1 + 2 ≤ _), (by decide : 4 + 4 ≤ _)⟩)
        dsimp only [Pt.U, Pt.locs, Pt.cells, Pt.slots] at Xw282 hSw282 gr282 l282 y282 z282 st282 hQ282 CHq282
        subst l282 y282 z282
        obtain ⟨X282, hS282, hZ282, hown282⟩ := rebS hS0 f243 Xw282 hSw282 gr282 hZ hown
        obtain ⟨sg_282, yv_282, ky_282, zl_282, ys_282, rfl, N282q, K282, f284, f285, f286, f287, f288, f289⟩ := hQ282
        have KK282 : Keep h0 T282.heap [u0] := Keep.trans K229 K282 all0
        have CH290 : CHr Z own_EL s.vm h0 T282.vm T282.heap := CH229.trans CHq282
        have Yr291 : Safe Z own_EL T282.vm T282.heap u0 := CHr.safe CHq282 f231.lt f244
        have N282 := Fr.app N229 N282q
        have f292 := (f231.keep K282)
        have f293 := (f233.keep K282 nin0)
        obtain ⟨T294, h294, X294, e294, W294, st294⟩ := putF X282 hx hZ282 hown282 (host := "") (Or.inl (own_g hw 116 rfl)) Via.refl rfl f293 f292 (Or.inr ⟨(own_g hw 117 rfl), rfl, hnm⟩) (own_g hw 29 rfl) (ty := (.object "java/lang/String")) (by decide) rfl rfl (g := (mkF m 100 #[rv u0, rv u1, iv p2, iv (0 : Int32)] [(.ref sg_282), (.ref u0)])) rfl rfl (hb hby d5_100)
        have CH295 : CHr Z own_EL s.vm h0 T282.vm h294 := CH290.trans (CHr.wr W294 Yr291 CH290.1)
        have f294_ : Fld Z h294 u0 "com/example/bundlewright/bundlewright/core/Name" "prefix" "Ljava/lang/String;" (.ref sg_282) := f293.same W294
        have N296 := Fr.snoc X294 N282 g_u0
        have K297 : Keep h0 h294 [u0] := KK282.wr W294 (Or.inl (List.mem_of_getElem? (i := 0) rfl))
        have pre298 : ∀ t, Steps p.tables e below (T294.setTop (mkF m 103 #[rv u0, rv u1, iv p2, iv (0 : Int32)] [])) t → Steps p.tables e below (s₁.setTop (entryFrame m #[(.ref u0), (.ref u1), (.int p2)] 4)) t := fun t kt => pre281 t (by
         show Steps _ _ _ (T229.setTop (mkF m 97 #[rv u0, rv u1, iv p2, iv (0 : Int32)] [(.int (0 : Int32)), (.int (0 : Int32)), (.ref u1), (.ref u0)])) _
         refine st282.trans ?_
         refine st294 _ ?_
         exact kt)
        have f299 := (Nat.le_trans (Nat.le_trans f230 K282.1) (Keep.of_wr W294).1)
        have f300 := (f292.wr W294)
        have f301 := ((f232.keep K282 nin0).other W294 (Or.inr (slot_ne (Or.inr (own_g hw 76 rfl)) (Or.inr (own_g hw 117 rfl)) (by decide) (t := (.array .byte)) (t' := (.object "java/lang/String")) (by decide) (by decide))))
        have f302 := ((f234.keep K282 nin0).other W294 (Or.inr (slot_ne (Or.inr (own_g hw 119 rfl)) (Or.inr (own_g hw 117 rfl)) (by decide) (t := (.object "java/lang/String")) (t' := (.object "java/lang/String")) (by decide) (by decide))))
        have f303 := ((f235.keep K282 nin0).other W294 (Or.inr (slot_ne (Or.inr (own_g hw 131 rfl)) (Or.inr (own_g hw 117 rfl)) (by decide) (t := (.object "java/lang/String")) (t' := (.object "java/lang/String")) (by decide) (by decide))))
        have f304 := ((f236.keep K282 nin0).other W294 (Or.inr (slot_ne (Or.inr (own_g hw 134 rfl)) (Or.inr (own_g hw 117 rfl)) (by decide) (t := .boolean) (t' := (.object "java/lang/String")) (by decide) (by decide))))
        have f305 := ((f237.keep K282).wr W294)
        have f306 := ((f238.keep K282 nin0).other W294 (Or.inl neS))
        have f307 := ((f239.keep K282 nin0).other W294 (Or.inl neS))
        have f308 := ((f240.keep K282 nin0).other W294 neT)
        have f309 := ((own_staKeep f241 K282 ns0).wr W294)
        have f310 := ((own_staKeep f242 K282 ns0).wr W294)
        have f311 := (Nat.le_trans (Nat.le_refl _) (Keep.of_wr W294).1)
        have f312 : Safe Z own_EL T282.vm h294 u0 := (Safe.wr W294 Yr291 CH290.1 Yr291)
        have f313 := ((f245.keep K282).wr W294)
        have f314 := ((f246.keep K282 nin0).other W294 (Ne.symm ne26))
        have f315 := (f284.wr W294)
        have f316 := (f285.other W294 (Or.inl f289.1))
        have f317 := (f286.other W294 (Or.inl f289.1))
        have f318 := (f287.other W294 f289.2)
        exact ⟨T294, _, (0 : Int32), T282.vm, T282.heap.size, sg_282, yv_282, ky_282, zl_282, ys_282, X294.more (by decide) (by decide), N296, (by rw [e294]; exact K297), (by rw [e294]; exact CH295), (by rw [e294]; exact f299), (by rw [e294]; exact f300), (by rw [e294]; exact f301), (by rw [e294]; exact f302), (by rw [e294]; exact f303), (by rw [e294]; exact f304), (by rw [e294]; exact f305), (by rw [e294]; exact f306), (by rw [e294]; exact f307), (by rw [e294]; exact f308), (by rw [e294]; exact f309), (by rw [e294]; exact f310), (by rw [e294]; exact f311), (by rw [e294]; exact f312), (by rw [e294]; exact f313), (by rw [e294]; exact f314), hZ282, hown282, hS282, (by rw [e294]; exact f315), (by rw [e294]; exact f316), (by rw [e294]; exact f317), (by rw [e294]; exact f318), (by rw [e294]; exact f294_), f288, ⟨f289.1, f289.2⟩, hc97_280.symm, pre298⟩
      · obtain ⟨cq320, kq320, q320a, q320b, q320c⟩ := isOf hZ rfl f237
        obtain ⟨_, _, ⟨T319, L319, k319, n319⟩, -, X319, ⟨Lc319, hQ319, l319, y319, z319⟩, st319⟩ := X229.virtualBack hx (y := own_y34) (z := own_y34) hown (mvT hZ (own_g hw 154 rfl)) (mvT hZ (own_g hw 155 rfl)) (notFace_of_selects (args := #[]) (mvT hZ (own_g hw 157 rfl))) (mvT hZ (own_g hw 157 rfl)) (mvT hZ (own_g hw 156 rfl)) (by decide) (backOf (W := 1) (rmS21 l Z a0 hw [] u1 (0 : Int32) r tv kt z vs zC fv T229.heap n0 f230 f237 f238 f239 f240 hz4 f241 hz f242 hfv (by decide) (own_q2 hr hc86_247 hc97_280).1 (own_q2 hr hc86_247 hc97_280).2.1 (fun _ => (own_q2 hr hc86_247 hc97_280).2.2)) hZ (own_g hw 158 rfl) (own_g hw 8 rfl) (by decide) (by decide)) q320a q320c (g := (mkF m 97 #[rv u0, rv u1, iv p2, iv r] [(.int r), (.int (0 : Int32)), (.ref u1), (.ref u0)])) rfl (by rw [hml]; rfl) (Steps.refl _) (argsL := [(.int (0 : Int32)), (.int r)]) (rest := [(.ref u0)]) (lenOf pd__II_Ljava_lang_String_ rfl) rfl (by show 2 * 0 + _ ≤ _; exact Nat.le_of_eq rfl) (hb hby d5_97) (fun _ _ => ⟨rfl, rfl, (by decide : 1 + 2 ≤ _), (by decide : 4 + 8 ≤ _)⟩)
        dsimp only [Pt.U, Pt.locs, Pt.cells, Pt.slots] at X319 l319 y319 z319 st319 hQ319
        subst l319 y319 z319
        obtain ⟨sg_319, yv_319, ky_319, zl_319, ys_319, rfl, N319q, K319, sx319_0, sx319_1, px319_0, f321, f322, f323, f324, f325⟩ := hQ319
        have osg_319 : n0 ≤ sg_319 := Nat.le_trans f230 sx319_0
        have zsg_319 : h0.size ≤ sg_319 := Nat.le_trans K229.1 sx319_0
        have ne326 : u0 ≠ sg_319 := Nat.ne_of_lt (Nat.lt_of_lt_of_le f231.lt sx319_0)
        have ne327 : u1 ≠ sg_319 := Nat.ne_of_lt (Nat.lt_of_lt_of_le f237.lt sx319_0)
        have ne328 : tv ≠ sg_319 := Nat.ne_of_lt (Nat.lt_of_lt_of_le f240.lt sx319_0)
        have ne329 : ta_20 ≠ sg_319 := Nat.ne_of_lt (Nat.lt_of_lt_of_le f245.lt sx319_0)
        have oyv_319 : n0 ≤ yv_319 := Nat.le_trans f230 sx319_1
        have zyv_319 : h0.size ≤ yv_319 := Nat.le_trans K229.1 sx319_1
        have ne330 : u0 ≠ yv_319 := Nat.ne_of_lt (Nat.lt_of_lt_of_le f231.lt sx319_1)
        have ne331 : u1 ≠ yv_319 := Nat.ne_of_lt (Nat.lt_of_lt_of_le f237.lt sx319_1)
        have ne332 : tv ≠ yv_319 := Nat.ne_of_lt (Nat.lt_of_lt_of_le f240.lt sx319_1)
        have ne333 : ta_20 ≠ yv_319 := Nat.ne_of_lt (Nat.lt_of_lt_of_le f245.lt sx319_1)
        have KK319 : Keep h0 T319.heap [u0] := Keep.trans K229 K319 all0
        have CH334 : CHr Z own_EL s.vm h0 s.vm T319.heap := CH229.trans (CHr.keep K319 sf0 CH229.1)
        have N319 := Fr.app N229 N319q
        have f335 := (f231.keep K319)
        have f336 := (f233.keep K319 nin0)
        have f337 : Safe Z own_EL s.vm T319.heap u0 := (Safe.keep K319 sf0 CH229.1 f244)
        obtain ⟨T338, h338, X338, e338, W338, st338⟩ := putF X319 hx hZ hown (host := "") (Or.inl (own_g hw 116 rfl)) Via.refl rfl f336 f335 (Or.inr ⟨(own_g hw 117 rfl), rfl, hnm⟩) (own_g hw 29 rfl) (ty := (.object "java/lang/String")) (by decide) rfl rfl (g := (mkF m 100 #[rv u0, rv u1, iv p2, iv r] [(.ref sg_319), (.ref u0)])) rfl rfl (hb hby d5_100)
        have CH339 : CHr Z own_EL s.vm h0 s.vm h338 := CH334.trans (CHr.wr W338 f337 CH334.1)
        have f338_ : Fld Z h338 u0 "com/example/bundlewright/bundlewright/core/Name" "prefix" "Ljava/lang/String;" (.ref sg_319) := f336.same W338
        have N340 := Fr.snoc X338 N319 g_u0
        have K341 : Keep h0 h338 [u0] := KK319.wr W338 (Or.inl (List.mem_of_getElem? (i := 0) rfl))
        have pre342 : ∀ t, Steps p.tables e below (T338.setTop (mkF m 103 #[rv u0, rv u1, iv p2, iv r] [])) t → Steps p.tables e below (s₁.setTop (entryFrame m #[(.ref u0), (.ref u1), (.int p2)] 4)) t := fun t kt => pre281 t (by
         show Steps _ _ _ (T229.setTop (mkF m 97 #[rv u0, rv u1, iv p2, iv r] [(.int r), (.int (0 : Int32)), (.ref u1), (.ref u0)])) _
         refine st319.trans ?_
         refine st338 _ ?_
         exact kt)
        have f343 := (Nat.le_trans (Nat.le_trans f230 K319.1) (Keep.of_wr W338).1)
        have f344 := (f335.wr W338)
        have f345 := ((f232.keep K319 nin0).other W338 (Or.inr (slot_ne (Or.inr (own_g hw 76 rfl)) (Or.inr (own_g hw 117 rfl)) (by decide) (t := (.array .byte)) (t' := (.object "java/lang/String")) (by decide) (by decide))))
        have f346 := ((f234.keep K319 nin0).other W338 (Or.inr (slot_ne (Or.inr (own_g hw 119 rfl)) (Or.inr (own_g hw 117 rfl)) (by decide) (t := (.object "java/lang/String")) (t' := (.object "java/lang/String")) (by decide) (by decide))))
        have f347 := ((f235.keep K319 nin0).other W338 (Or.inr (slot_ne (Or.inr (own_g hw 131 rfl)) (Or.inr (own_g hw 117 rfl)) (by decide) (t := (.object "java/lang/String")) (t' := (.object "java/lang/String")) (by decide) (by decide))))
        have f348 := ((f236.keep K319 nin0).other W338 (Or.inr (slot_ne (Or.inr (own_g hw 134 rfl)) (Or.inr (own_g hw 117 rfl)) (by decide) (t := .boolean) (t' := (.object "java/lang/String")) (by decide) (by decide))))
        have f349 := ((f237.keep K319).wr W338)
        have f350 := ((f238.keep K319 nin0).other W338 (Or.inl neS))
        have f351 := ((f239.keep K319 nin0).other W338 (Or.inl neS))
        have f352 := ((f240.keep K319 nin0).other W338 neT)
        have f353 := ((own_staKeep f241 K319 ns0).wr W338)
        have f354 := ((own_staKeep f242 K319 ns0).wr W338)
        have f355 := (Nat.le_trans (Nat.le_trans f243 K319.1) (Keep.of_wr W338).1)
        have f356 : Safe Z own_EL s.vm h338 u0 := (Safe.wr W338 f337 CH334.1 f337)
        have f357 := ((f245.keep K319).wr W338)
        have f358 := ((f246.keep K319 nin0).other W338 (Ne.symm ne26))
        have f359 := (f321.wr W338)
        have f360 := (f322.other W338 (Or.inl (Ne.symm ne326)))
        have f361 := (f323.other W338 (Or.inl (Ne.symm ne326)))
        have f362 := (f324.other W338 (Ne.symm ne330))
        exact ⟨T338, _, r, s.vm, h0.size, sg_319, yv_319, ky_319, zl_319, ys_319, X338.more (by decide) (by decide), N340, (by rw [e338]; exact K341), (by rw [e338]; exact CH339), (by rw [e338]; exact f343), (by rw [e338]; exact f344), (by rw [e338]; exact f345), (by rw [e338]; exact f346), (by rw [e338]; exact f347), (by rw [e338]; exact f348), (by rw [e338]; exact f349), (by rw [e338]; exact f350), (by rw [e338]; exact f351), (by rw [e338]; exact f352), (by rw [e338]; exact f353), (by rw [e338]; exact f354), (by rw [e338]; exact f355), (by rw [e338]; exact f356), (by rw [e338]; exact f357), (by rw [e338]; exact f358), hZ, hown, hS0, (by rw [e338]; exact f359), (by rw [e338]; exact f360), (by rw [e338]; exact f361), (by rw [e338]; exact f362), (by rw [e338]; exact f338_), f325, ⟨(Ne.symm ne326), (Ne.symm ne330)⟩, rfl, pre342⟩
  obtain ⟨T363, L363, x363_L3, vm363, kx363, sgx, yx, kyx, zx, ysx, X363, N363, K363, CH363, f364, f365, f366, f367, f368, f369, f370, f371, f372, f373, f374, f375, f376, f377, f378, f379, hZ363, hown363, hS363, f380, f381, f382, f383, f384, hx4, hxn, mq363_L3, pre363⟩ := Mg363
  rw [mq363_L3] at pre363
  have Mg496 : ∃ (T496 : State) (L496 : List Loc) (vm496 : Vm) (kx496 : Nat), Stand p l e ({ frames := 6, cells := 13, slots := 108, locals := 94 } : Room) (s.setVm vm496) m #[(.ref u0), (.ref u1), (.int p2)] below meth c T496 L496 5 20 ∧ Fr n0 L496 ∧ Keep h0 T496.heap [u0] ∧ CHr Z own_EL s.vm h0 vm496 T496.heap ∧ Exa Z T496.heap sgx "java/lang/String" ∧ Fld Z T496.heap sgx "java/lang/String" "value" "[B" (.ref yx) ∧ Fld Z T496.heap sgx "java/lang/String" "coder" "B" (.int (0 : Int32)) ∧ Arv Z T496.heap yx kyx .byte zx ysx (.int 0) ∧ Fld Z T496.heap u0 "com/example/bundlewright/bundlewright/core/Name" "prefix" "Ljava/lang/String;" (.ref sgx) ∧ n0 ≤ T496.heap.size ∧ Exa Z T496.heap u0 "com/example/bundlewright/bundlewright/core/Name" ∧ Fld Z T496.heap u0 "com/example/bundlewright/bundlewright/core/Name" "ascii" "[B" (.ref ta_20) ∧ Fld Z T496.heap u0 "com/example/bundlewright/bundlewright/core/Name" "declared" "Ljava/lang/String;" .null ∧ Fld Z T496.heap u0 "com/example/bundlewright/bundlewright/core/Name" "reservedPrefix" "Z" (.int (0 : Int32)) ∧ Exa Z T496.heap u1 "java/lang/String" ∧ Fld Z T496.heap u1 "java/lang/String" "value" "[B" (.ref tv) ∧ Fld Z T496.heap u1 "java/lang/String" "coder" "B" (.int (0 : Int32)) ∧ Arv Z T496.heap tv kt .byte z vs (.int 0) ∧ Sta Z T496.heap "java/lang/String" "COMPACT_STRINGS" "Z" (.int zC) ∧ kx496 ≤ T496.heap.size ∧ Safe Z own_EL vm496 T496.heap u0 ∧ Exa Z T496.heap ta_20 "[B" ∧ Arv Z T496.heap ta_20 ka_20 .byte z vs (.int 0) ∧ Z.Warmed39 (s.setVm vm496).vm ∧ (s.setVm vm496).vm.findClass "com/example/bundlewright/bundlewright/core/Name" = some m.cls ∧ s.Since vm496 kx496 ∧ (∀ t, Steps p.tables e below (T496.setTop (mkF m 122 #[rv u0, rv u1, iv p2, iv r] [])) t → Steps p.tables e below (s₁.setTop (entryFrame m #[(.ref u0), (.ref u1), (.int p2)] 4)) t) := by
    have pre386 : ∀ t, Steps p.tables e below (T363.setTop (mkF m 105 #[rv u0, rv u1, iv p2, iv r] [(.int r), (.ref u0)])) t → Steps p.tables e below (s₁.setTop (entryFrame m #[(.ref u0), (.ref u1), (.int p2)] 4)) t := fun t kt => pre363 t (by
     refine XS.aloadN X363.here hx rfl (hb hby d5_103) rfl rfl ?_
     refine XS.iloadN X363.here hx rfl (hb hby d5_104) rfl ?_
     exact kt)
    by_cases hc105_385 : r < (0 : Int32)
    · obtain ⟨T387, h387, X387, e387, W387, st387⟩ := putF X363 hx hZ363 hown363 (host := "") (Or.inl (own_g hw 118 rfl)) Via.refl rfl f367 f365 (Or.inr ⟨(own_g hw 119 rfl), rfl, hnm⟩) (own_g hw 29 rfl) (ty := (.object "java/lang/String")) (by decide) rfl rfl (g := (mkF m 119 #[rv u0, rv u1, iv p2, iv r] [(.ref u1), (.ref u0)])) rfl rfl (hb hby d5_119)
      have CH388 : CHr Z own_EL s.vm h0 vm363 h387 := CH363.trans (CHr.wr W387 f377 CH363.1)
      have f387_ : Fld Z h387 u0 "com/example/bundlewright/bundlewright/core/Name" "local" "Ljava/lang/String;" (.ref u1) := f367.same W387
      have N389 := Fr.snoc X387 N363 g_u0
      have K390 : Keep h0 h387 [u0] := K363.wr W387 (Or.inl (List.mem_of_getElem? (i := 0) rfl))
      have pre391 : ∀ t, Steps p.tables e below (T387.setTop (mkF m 122 #[rv u0, rv u1, iv p2, iv r] [])) t → Steps p.tables e below (s₁.setTop (entryFrame m #[(.ref u0), (.ref u1), (.int p2)] 4)) t := fun t kt => pre386 t (by
       refine XS.ifNo X363.here hx rfl (hb hby d5_105) rfl ((if0 _ _).trans (tlt hc105_385).2.1) ?_
       refine XS.aloadN X363.here hx rfl (hb hby d5_108) rfl rfl ?_
       refine XS.goto X363.here hx rfl (pc0 := 109) (pc' := 119) rfl (hb hby d5_109) (by decide) (by decide) ?_
       show Steps _ _ _ (T363.setTop (mkF m 119 #[rv u0, rv u1, iv p2, iv r] [(.ref u1), (.ref u0)])) _
       refine st387 _ ?_
       exact kt)
      have f392 := (f380.wr W387)
      have f393 := (f381.other W387 (Or.inl hxn.1))
      have f394 := (f382.other W387 (Or.inl hxn.1))
      have f395 := (f383.other W387 hxn.2)
      have f396 := (f384.other W387 (Or.inr (slot_ne (Or.inr (own_g hw 117 rfl)) (Or.inr (own_g hw 119 rfl)) (by decide) (t := (.object "java/lang/String")) (t' := (.object "java/lang/String")) (by decide) (by decide))))
      have f397 := (Nat.le_trans f364 (Keep.of_wr W387).1)
      have f398 := (f365.wr W387)
      have f399 := (f366.other W387 (Or.inr (slot_ne (Or.inr (own_g hw 76 rfl)) (Or.inr (own_g hw 119 rfl)) (by decide) (t := (.array .byte)) (t' := (.object "java/lang/String")) (by decide) (by decide))))
      have f400 := (f368.other W387 (Or.inr (slot_ne (Or.inr (own_g hw 131 rfl)) (Or.inr (own_g hw 119 rfl)) (by decide) (t := (.object "java/lang/String")) (t' := (.object "java/lang/String")) (by decide) (by decide))))
      have f401 := (f369.other W387 (Or.inr (slot_ne (Or.inr (own_g hw 134 rfl)) (Or.inr (own_g hw 119 rfl)) (by decide) (t := .boolean) (t' := (.object "java/lang/String")) (by decide) (by decide))))
      have f402 := (f370.wr W387)
      have f403 := (f371.other W387 (Or.inl neS))
      have f404 := (f372.other W387 (Or.inl neS))
      have f405 := (f373.other W387 neT)
      have f406 := (f374.wr W387)
      have f407 := (Nat.le_trans f376 (Keep.of_wr W387).1)
      have f408 : Safe Z own_EL vm363 h387 u0 := (Safe.wr W387 f377 CH363.1 f377)
      have f409 := (f378.wr W387)
      have f410 := (f379.other W387 (Ne.symm ne26))
      exact ⟨T387, _, vm363, kx363, X387.more (by decide) (by decide), N389, (by rw [e387]; exact K390), (by rw [e387]; exact CH388), (by rw [e387]; exact f392), (by rw [e387]; exact f393), (by rw [e387]; exact f394), (by rw [e387]; exact f395), (by rw [e387]; exact f396), (by rw [e387]; exact f397), (by rw [e387]; exact f398), (by rw [e387]; exact f399), (by rw [e387]; exact f400), (by rw [e387]; exact f401), (by rw [e387]; exact f402), (by rw [e387]; exact f403), (by rw [e387]; exact f404), (by rw [e387]; exact f405), (by rw [e387]; exact f406), (by rw [e387]; exact f407), (by rw [e387]; exact f408), (by rw [e387]; exact f409), (by rw [e387]; exact f410), hZ363, hown363, hS363, pre391⟩
    · have pre412 : ∀ t, Steps p.tables e below (T363.setTop (mkF m 116 #[rv u0, rv u1, iv p2, iv r] [(.int (r + (1 : Int32))), (.ref u1), (.ref u0)])) t → Steps p.tables e below (s₁.setTop (entryFrame m #[(.ref u0), (.ref u1), (.int p2)] 4)) t := fun t kt => pre386 t (by
       refine XS.ifYes X363.here hx rfl (pc0 := 105) (pc' := 112) rfl (hb hby d5_105) rfl ((if0 _ _).trans (flt hc105_385).2.1) (by decide) (by decide) ?_
       refine XS.aloadN X363.here hx rfl (hb hby d5_112) rfl rfl ?_
       refine XS.iloadN X363.here hx rfl (hb hby d5_113) rfl ?_
       refine XS.iconst X363.here hx rfl (hb hby d5_114) ?_
       refine XS.iadd X363.here hx rfl (hb hby d5_115) rfl ?_
       exact kt)
      by_cases hc116_411 : (r + (1 : Int32)) = z
      · rw [hc116_411] at pre412
        obtain ⟨cq414, kq414, q414a, q414b, q414c⟩ := isOf hZ363 rfl f370
        obtain ⟨_, _, ⟨T413, L413, k413, n413⟩, -, Xw413, hSw413, gr413, ⟨Lc413, hQ413, l413, y413, z413, CHq413⟩, st413⟩ := X363.virtualBackS hx (y := own_y35) (z := own_y35) hown363 (mvT hZ363 (own_g hw 189 rfl)) (mvT hZ363 (own_g hw 190 rfl)) (notFace_of_selects (args := #[]) (mvT hZ363 (own_g hw 192 rfl))) (mvT hZ363 (own_g hw 192 rfl)) (mvT hZ363 (own_g hw 191 rfl)) (by decide) (backOfSH (W := 1) (rmS10 l Z a0 hw [] u1 tv kt z vs zC fv u0 T363.heap n0 f364 f370 f371 f372 f373 hz4 f374 hz f375 hfv (own_q5 hr hc105_385) f365) hZ363 (own_g hw 193 rfl) (own_g hw 8 rfl) (by decide) (by decide) hEL CH363.1) q414a q414c (g := (mkF m 116 #[rv u0, rv u1, iv p2, iv r] [(.int z), (.ref u1), (.ref u0)])) rfl (by rw [hml]; rfl) (Steps.refl _) (argsL := [(.int z)]) (rest := [(.ref u0)]) (lenOf pd__I_Ljava_lang_String_ rfl) rfl (by show 2 * 0 + _ ≤ _; exact Nat.le_of_eq rfl) (hb hby d5_116) (fun _ _ => ⟨rfl, rfl, (by decide : 3 + 2 ≤ _), (by decide : 12 + 4 ≤ _)⟩)
        dsimp only [Pt.U, Pt.locs, Pt.cells, Pt.slots] at Xw413 hSw413 gr413 l413 y413 z413 st413 hQ413 CHq413
        subst l413 y413 z413
        obtain ⟨X413, hS413, hZ413, hown413⟩ := rebS hS363 f376 Xw413 hSw413 gr413 hZ363 hown363
        obtain ⟨sg_413, yv_413, ky_413, zl_413, ys_413, rfl, N413q, K413, f415, f416, f417, f418, f419, f420⟩ := hQ413
        have KK413 : Keep h0 T413.heap [u0] := Keep.trans K363 K413 all0
        have CH421 : CHr Z own_EL s.vm h0 T413.vm T413.heap := CH363.trans CHq413
        have Yr422 : Safe Z own_EL T413.vm T413.heap u0 := CHr.safe CHq413 f384.lt f377
        have N413 := Fr.app N363 N413q
        have f423 := (f365.keep K413)
        have f424 := (f367.keep K413 nin0)
        obtain ⟨T425, h425, X425, e425, W425, st425⟩ := putF X413 hx hZ413 hown413 (host := "") (Or.inl (own_g hw 118 rfl)) Via.refl rfl f424 f423 (Or.inr ⟨(own_g hw 119 rfl), rfl, hnm⟩) (own_g hw 29 rfl) (ty := (.object "java/lang/String")) (by decide) rfl rfl (g := (mkF m 119 #[rv u0, rv u1, iv p2, iv r] [(.ref sg_413), (.ref u0)])) rfl rfl (hb hby d5_119)
        have CH426 : CHr Z own_EL s.vm h0 T413.vm h425 := CH421.trans (CHr.wr W425 Yr422 CH421.1)
        have f425_ : Fld Z h425 u0 "com/example/bundlewright/bundlewright/core/Name" "local" "Ljava/lang/String;" (.ref sg_413) := f424.same W425
        have N427 := Fr.snoc X425 N413 g_u0
        have K428 : Keep h0 h425 [u0] := KK413.wr W425 (Or.inl (List.mem_of_getElem? (i := 0) rfl))
        have pre429 : ∀ t, Steps p.tables e below (T425.setTop (mkF m 122 #[rv u0, rv u1, iv p2, iv r] [])) t → Steps p.tables e below (s₁.setTop (entryFrame m #[(.ref u0), (.ref u1), (.int p2)] 4)) t := fun t kt => pre412 t (by
         show Steps _ _ _ (T363.setTop (mkF m 116 #[rv u0, rv u1, iv p2, iv r] [(.int z), (.ref u1), (.ref u0)])) _
         refine st413.trans ?_
         refine st425 _ ?_
         exact kt)
        have f430 := ((f380.keep K413).wr W425)
        have f431 := ((f381.keep K413 nin0).other W425 (Or.inl hxn.1))
        have f432 := ((f382.keep K413 nin0).other W425 (Or.inl hxn.1))
        have f433 := ((f383.keep K413 nin0).other W425 hxn.2)
        have f434 := ((f384.keep K413 nin0).other W425 (Or.inr (slot_ne (Or.inr (own_g hw 117 rfl)) (Or.inr (own_g hw 119 rfl)) (by decide) (t := (.object "java/lang/String")) (t' := (.object "java/lang/String")) (by decide) (by decide))))
        have f435 := (Nat.le_trans (Nat.le_trans f364 K413.1) (Keep.of_wr W425).1)
        have f436 := (f423.wr W425)
        have f437 := ((f366.keep K413 nin0).other W425 (Or.inr (slot_ne (Or.inr (own_g hw 76 rfl)) (Or.inr (own_g hw 119 rfl)) (by decide) (t := (.array .byte)) (t' := (.object "java/lang/String")) (by decide) (by decide))))
        have f438 := ((f368.keep K413 nin0).other W425 (Or.inr (slot_ne (Or.inr (own_g hw 131 rfl)) (Or.inr (own_g hw 119 rfl)) (by decide) (t := (.object "java/lang/String")) (t' := (.object "java/lang/String")) (by decide) (by decide))))
        have f439 := ((f369.keep K413 nin0).other W425 (Or.inr (slot_ne (Or.inr (own_g hw 134 rfl)) (Or.inr (own_g hw 119 rfl)) (by decide) (t := .boolean) (t' := (.object "java/lang/String")) (by decide) (by decide))))
        have f440 := ((f370.keep K413).wr W425)
        have f441 := ((f371.keep K413 nin0).other W425 (Or.inl neS))
        have f442 := ((f372.keep K413 nin0).other W425 (Or.inl neS))
        have f443 := ((f373.keep K413 nin0).other W425 neT)
        have f444 := ((own_staKeep f374 K413 ns0).wr W425)
        have f445 := (Nat.le_trans (Nat.le_refl _) (Keep.of_wr W425).1)
        have f446 : Safe Z own_EL T413.vm h425 u0 := (Safe.wr W425 Yr422 CH421.1 Yr422)
        have f447 := ((f378.keep K413).wr W425)
        have f448 := ((f379.keep K413 nin0).other W425 (Ne.symm ne26))
        exact ⟨T425, _, T413.vm, T413.heap.size, X425.more (by decide) (by decide), N427, (by rw [e425]; exact K428), (by rw [e425]; exact CH426), (by rw [e425]; exact f430), (by rw [e425]; exact f431), (by rw [e425]; exact f432), (by rw [e425]; exact f433), (by rw [e425]; exact f434), (by rw [e425]; exact f435), (by rw [e425]; exact f436), (by rw [e425]; exact f437), (by rw [e425]; exact f438), (by rw [e425]; exact f439), (by rw [e425]; exact f440), (by rw [e425]; exact f441), (by rw [e425]; exact f442), (by rw [e425]; exact f443), (by rw [e425]; exact f444), (by rw [e425]; exact f445), (by rw [e425]; exact f446), (by rw [e425]; exact f447), (by rw [e425]; exact f448), hZ413, hown413, hS413, pre429⟩
      · obtain ⟨cq450, kq450, q450a, q450b, q450c⟩ := isOf hZ363 rfl f370
        obtain ⟨_, _, ⟨T449, L449, k449, n449⟩, -, X449, ⟨Lc449, hQ449, l449, y449, z449⟩, st449⟩ := X363.virtualBack hx (y := own_y35) (z := own_y35) hown363 (mvT hZ363 (own_g hw 189 rfl)) (mvT hZ363 (own_g hw 190 rfl)) (notFace_of_selects (args := #[]) (mvT hZ363 (own_g hw 192 rfl))) (mvT hZ363 (own_g hw 192 rfl)) (mvT hZ363 (own_g hw 191 rfl)) (by decide) (backOf (W := 1) (rmS11 l Z a0 hw [] u1 (r + (1 : Int32)) tv kt z vs zC fv T363.heap n0 f364 f370 f371 f372 f373 hz4 f374 hz f375 hfv (own_q4 hr hc105_385 hz4 hc116_411).1 (own_q4 hr hc105_385 hz4 hc116_411).2) hZ363 (own_g hw 193 rfl) (own_g hw 8 rfl) (by decide) (by decide)) q450a q450c (g := (mkF m 116 #[rv u0, rv u1, iv p2, iv r] [(.int (r + (1 : Int32))), (.ref u1), (.ref u0)])) rfl (by rw [hml]; rfl) (Steps.refl _) (argsL := [(.int (r + (1 : Int32)))]) (rest := [(.ref u0)]) (lenOf pd__I_Ljava_lang_String_ rfl) rfl (by show 2 * 0 + _ ≤ _; exact Nat.le_of_eq rfl) (hb hby d5_116) (fun _ _ => ⟨rfl, rfl, (by decide : 3 + 2 ≤ _), (by decide : 12 + 8 ≤ _)⟩)
        dsimp only [Pt.U, Pt.locs, Pt.cells, Pt.slots] at X449 l449 y449 z449 st449 hQ449
        subst l449 y449 z449
        obtain ⟨sg_449, yv_449, ky_449, zl_449, ys_449, rfl, N449q, K449, sx449_0, sx449_1, px449_0, f451, f452, f453, f454, f455⟩ := hQ449
        have osg_449 : n0 ≤ sg_449 := Nat.le_trans f364 sx449_0
        have zsg_449 : h0.size ≤ sg_449 := Nat.le_trans K363.1 sx449_0
        have ne456 : sgx ≠ sg_449 := Nat.ne_of_lt (Nat.lt_of_lt_of_le f380.lt sx449_0)
        have ne457 : yx ≠ sg_449 := Nat.ne_of_lt (Nat.lt_of_lt_of_le f383.lt sx449_0)
        have ne458 : u0 ≠ sg_449 := Nat.ne_of_lt (Nat.lt_of_lt_of_le f384.lt sx449_0)
        have ne459 : u1 ≠ sg_449 := Nat.ne_of_lt (Nat.lt_of_lt_of_le f370.lt sx449_0)
        have ne460 : tv ≠ sg_449 := Nat.ne_of_lt (Nat.lt_of_lt_of_le f373.lt sx449_0)
        have ne461 : ta_20 ≠ sg_449 := Nat.ne_of_lt (Nat.lt_of_lt_of_le f378.lt sx449_0)
        have oyv_449 : n0 ≤ yv_449 := Nat.le_trans f364 sx449_1
        have zyv_449 : h0.size ≤ yv_449 := Nat.le_trans K363.1 sx449_1
        have ne462 : sgx ≠ yv_449 := Nat.ne_of_lt (Nat.lt_of_lt_of_le f380.lt sx449_1)
        have ne463 : yx ≠ yv_449 := Nat.ne_of_lt (Nat.lt_of_lt_of_le f383.lt sx449_1)
        have ne464 : u0 ≠ yv_449 := Nat.ne_of_lt (Nat.lt_of_lt_of_le f384.lt sx449_1)
        have ne465 : u1 ≠ yv_449 := Nat.ne_of_lt (Nat.lt_of_lt_of_le f370.lt sx449_1)
        have ne466 : tv ≠ yv_449 := Nat.ne_of_lt (Nat.lt_of_lt_of_le f373.lt sx449_1)
        have ne467 : ta_20 ≠ yv_449 := Nat.ne_of_lt (Nat.lt_of_lt_of_le f378.lt sx449_1)
        have KK449 : Keep h0 T449.heap [u0] := Keep.trans K363 K449 all0
        have CH468 : CHr Z own_EL s.vm h0 vm363 T449.heap := CH363.trans (CHr.keep K449 sf0 CH363.1)
        have N449 := Fr.app N363 N449q
        have f469 := (f365.keep K449)
        have f470 := (f367.keep K449 nin0)
        have f471 : Safe Z own_EL vm363 T449.heap u0 := (Safe.keep K449 sf0 CH363.1 f377)
        obtain ⟨T472, h472, X472, e472, W472, st472⟩ := putF X449 hx hZ363 hown363 (host := "") (Or.inl (own_g hw 118 rfl)) Via.refl rfl f470 f469 (Or.inr ⟨(own_g hw 119 rfl), rfl, hnm⟩) (own_g hw 29 rfl) (ty := (.object "java/lang/String")) (by decide) rfl rfl (g := (mkF m 119 #[rv u0, rv u1, iv p2, iv r] [(.ref sg_449), (.ref u0)])) rfl rfl (hb hby d5_119)
        have CH473 : CHr Z own_EL s.vm h0 vm363 h472 := CH468.trans (CHr.wr W472 f471 CH468.1)
        have f472_ : Fld Z h472 u0 "com/example/bundlewright/bundlewright/core/Name" "local" "Ljava/lang/String;" (.ref sg_449) := f470.same W472
        have N474 := Fr.snoc X472 N449 g_u0
        have K475 : Keep h0 h472 [u0] := KK449.wr W472 (Or.inl (List.mem_of_getElem? (i := 0) rfl))
        have pre476 : ∀ t, Steps p.tables e below (T472.setTop (mkF m 122 #[rv u0, rv u1, iv p2, iv r] [])) t → Steps p.tables e below (s₁.setTop (entryFrame m #[(.ref u0), (.ref u1), (.int p2)] 4)) t := fun t kt => pre412 t (by
         show Steps _ _ _ (T363.setTop (mkF m 116 #[rv u0, rv u1, iv p2, iv r] [(.int (r + (1 : Int32))), (.ref u1), (.ref u0)])) _
         refine st449.trans ?_
         refine st472 _ ?_
         exact kt)
        have f477 := ((f380.keep K449).wr W472)
        have f478 := ((f381.keep K449 nin0).other W472 (Or.inl hxn.1))
        have f479 := ((f382.keep K449 nin0).other W472 (Or.inl hxn.1))
        have f480 := ((f383.keep K449 nin0).other W472 hxn.2)
        have f481 := ((f384.keep K449 nin0).other W472 (Or.inr (slot_ne (Or.inr (own_g hw 117 rfl)) (Or.inr (own_g hw 119 rfl)) (by decide) (t := (.object "java/lang/String")) (t' := (.object "java/lang/String")) (by decide) (by decide))))
        have f482 := (Nat.le_trans (Nat.le_trans f364 K449.1) (Keep.of_wr W472).1)
        have f483 := (f469.wr W472)
        have f484 := ((f366.keep K449 nin0).other W472 (Or.inr (slot_ne (Or.inr (own_g hw 76 rfl)) (Or.inr (own_g hw 119 rfl)) (by decide) (t := (.array .byte)) (t' := (.object "java/lang/String")) (by decide) (by decide))))
        have f485 := ((f368.keep K449 nin0).other W472 (Or.inr (slot_ne (Or.inr (own_g hw 131 rfl)) (Or.inr (own_g hw 119 rfl)) (by decide) (t := (.object "java/lang/String")) (t' := (.object "java/lang/String")) (by decide) (by decide))))
        have f486 := ((f369.keep K449 nin0).other W472 (Or.inr (slot_ne (Or.inr (own_g hw 134 rfl)) (Or.inr (own_g hw 119 rfl)) (by decide) (t := .boolean) (t' := (.object "java/lang/String")) (by decide) (by decide))))
        have f487 := ((f370.keep K449).wr W472)
        have f488 := ((f371.keep K449 nin0).other W472 (Or.inl neS))
        have f489 := ((f372.keep K449 nin0).other W472 (Or.inl neS))
        have f490 := ((f373.keep K449 nin0).other W472 neT)
        have f491 := ((own_staKeep f374 K449 ns0).wr W472)
        have f492 := (Nat.le_trans (Nat.le_trans f376 K449.1) (Keep.of_wr W472).1)
        have f493 : Safe Z own_EL vm363 h472 u0 := (Safe.wr W472 f471 CH468.1 f471)
        have f494 := ((f378.keep K449).wr W472)
        have f495 := ((f379.keep K449 nin0).other W472 (Ne.symm ne26))
        exact ⟨T472, _, vm363, kx363, X472.more (by decide) (by decide), N474, (by rw [e472]; exact K475), (by rw [e472]; exact CH473), (by rw [e472]; exact f477), (by rw [e472]; exact f478), (by rw [e472]; exact f479), (by rw [e472]; exact f480), (by rw [e472]; exact f481), (by rw [e472]; exact f482), (by rw [e472]; exact f483), (by rw [e472]; exact f484), (by rw [e472]; exact f485), (by rw [e472]; exact f486), (by rw [e472]; exact f487), (by rw [e472]; exact f488), (by rw [e472]; exact f489), (by rw [e472]; exact f490), (by rw [e472]; exact f491), (by rw [e472]; exact f492), (by rw [e472]; exact f493), (by rw [e472]; exact f494), (by rw [e472]; exact f495), hZ363, hown363, hS363, pre476⟩
  obtain ⟨T496, L496, vm496, kx496, X496, N496, K496, CH496, f497, f498, f499, f500, f501, f502, f503, f504, f505, f506, f507, f508, f509, f510, f511, f512, f513, f514, f515, hZ496, hown496, hS496, pre496⟩ := Mg496
  have pre516 : ∀ t, Steps p.tables e below (T496.setTop (mkF m 123 #[rv u0, rv u1, iv p2, iv r] [(.ref u1)])) t → Steps p.tables e below (s₁.setTop (entryFrame m #[(.ref u0), (.ref u1), (.int p2)] 4)) t := fun t kt => pre496 t (by
   refine XS.aloadN X496.here hx rfl (hb hby d5_122) rfl rfl ?_
   exact kt)
  obtain ⟨a517, T517, h517, kk517, b517, kc517, X517, e517, E517, hS517, hk517, hZ517, hown517, Ea517, Ca517, Va517, Aa517, la517, lb517, CHq517, Lt517, nx517, st517⟩ := ldcCH (vs := [(.int (120 : Int32)), (.int (109 : Int32)), (.int (108 : Int32)), (.int (110 : Int32)), (.int (115 : Int32))]) (z := (5 : Int32)) (show Stand p l e ({ frames := 6, cells := 13, slots := 108, locals := 94 } : Room) (s.setVm vm496) m _ below meth c _ _ _ _ from X496) hx hZ496 hown496 (own_g hw 120 rfl) wS rfl hS496 f512 hEL (List.mem_of_getElem? (i := 1) rfl) CH496.1 ⟨by decide, rfl⟩ (by decide) rfl (g := (mkF m 123 #[rv u0, rv u1, iv p2, iv r] [(.ref u1)])) rfl (hb hby d5_123) (n := 20) (by decide) (by decide) (by decide) (by decide)
  have K517 : Keep h0 h517 [u0] := K496.ext E517
  have CH518 : CHr Z own_EL s.vm h0 T517.vm h517 := CH496.trans CHq517
  have Yr519 : Safe Z own_EL T517.vm h517 u0 := CHr.safe CHq517 f501.lt f513
  have Qb517 : Exa Z h517 b517 "[B" := own_litB hZ517.alike Aa517 (Classical.byContradiction fun S_ => (nx517 b517 S_).2 rfl)
  have pre520 : ∀ t, Steps p.tables e below (T517.setTop (mkF m 125 #[rv u0, rv u1, iv p2, iv r] [(.ref a517), (.ref u1)])) t → Steps p.tables e below (s₁.setTop (entryFrame m #[(.ref u0), (.ref u1), (.int p2)] 4)) t := fun t kt => pre516 t (by
   refine st517 _ ?_
   exact kt)
  have f521 := (f507.ext E517)
  have f522 := (f508.ext E517)
  have f523 := (f509.ext E517)
  have f524 := (f510.ext E517)
  have f525 := (f511.ext E517)
  have f526 := (Nat.le_trans f502 E517.1)
  obtain ⟨cq528, kq528, q528a, q528b, q528c⟩ := isOf hZ517 e517 f521
  obtain ⟨_, _, ⟨T527, L527, k527, n527⟩, -, X527, ⟨Lc527, hQ527, l527, y527, z527⟩, st527⟩ := X517.virtualBack hx (y := own_y25) (z := own_y25) hown517 (mvT hZ517 (own_g hw 121 rfl)) (mvT hZ517 (own_g hw 122 rfl)) (notFace_of_selects (args := #[]) (mvT hZ517 (own_g hw 124 rfl))) (mvT hZ517 (own_g hw 124 rfl)) (mvT hZ517 (own_g hw 123 rfl)) (by decide) (backOf (W := 0) (rmEQ5 l Z a0 hw [] u1 a517 tv kt z vs b517 kc517 [(.int (120 : Int32)), (.int (109 : Int32)), (.int (108 : Int32)), (.int (110 : Int32)), (.int (115 : Int32))] zC h517 n0 f526 f521 f522 f523 f524 Ea517 Va517 Ca517 Aa517 f525 hz (own_n5 hz4)) hZ517 (own_g hw 125 rfl) (own_g hw 8 rfl) (by decide) (by decide)) q528a q528c (g := (mkF m 125 #[rv u0, rv u1, iv p2, iv r] [(.ref a517), (.ref u1)])) rfl (by rw [hml]; rfl) (Steps.refl _) (argsL := [(.ref a517)]) (rest := []) (lenOf pd__Ljava_lang_Object__Z rfl) rfl (by show 2 * 0 + _ ≤ _; exact Nat.le_of_eq rfl) (hb hby d5_125) (fun _ _ => ⟨rfl, e517, (by decide : 7 + 0 ≤ _), (by decide : 44 + 0 ≤ _)⟩)
  dsimp only [Pt.U, Pt.locs, Pt.cells, Pt.slots] at X527 l527 y527 z527 st527 hQ527
  subst l527 y527 z527
  obtain ⟨rfl, N527q, e527⟩ := hQ527
  have N527 := Fr.app N496 N527q
  have f529 := (f501.ext E517)
  obtain ⟨T530, X530, e530, st530⟩ := getF X527 hx hZ517 hown517 (host := "") (Or.inl (own_g hw 116 rfl)) Via.refl e527 f529 (g := (mkF m 141 #[rv u0, rv u1, iv p2, iv r] [(.ref u0)])) rfl rfl (hb hby d5_141)
  have pre531 : ∀ t, Steps p.tables e below (T530.setTop (mkF m 144 #[rv u0, rv u1, iv p2, iv r] [(.ref sgx)])) t → Steps p.tables e below (s₁.setTop (entryFrame m #[(.ref u0), (.ref u1), (.int p2)] 4)) t := fun t kt => pre520 t (by
   show Steps _ _ _ (T517.setTop (mkF m 125 #[rv u0, rv u1, iv p2, iv r] [(.ref a517), (.ref u1)])) _
   refine st527.trans ?_
   refine XS.ifYes X527.here hx rfl (pc0 := 128) (pc' := 140) rfl (hb hby d5_128) rfl ((if0 _ _).trans (teq (by decide : (0 : Int32) = (0 : Int32))).1) (by decide) (by decide) ?_
   refine XS.aloadN X527.here hx rfl (hb hby d5_140) rfl rfl ?_
   refine st530 _ ?_
   exact kt)
  obtain ⟨a532, T532, h532, kk532, b532, kc532, X532, e532, E532, hS532, hk532, hZ532, hown532, Ea532, Ca532, Va532, Aa532, la532, lb532, CHq532, Lt532, nx532, st532⟩ := ldcCH (vs := [(.int (120 : Int32)), (.int (109 : Int32)), (.int (108 : Int32)), (.int (110 : Int32)), (.int (115 : Int32))]) (z := (5 : Int32)) (show Stand p l e ({ frames := 6, cells := 13, slots := 108, locals := 94 } : Room) (s.setVm T517.vm) m _ below meth c _ _ _ _ from X530) hx hZ517 hown517 (own_g hw 120 rfl) wS e530 hS517 hk517 hEL (List.mem_of_getElem? (i := 1) rfl) CH518.1 ⟨by decide, rfl⟩ (by decide) rfl (g := (mkF m 144 #[rv u0, rv u1, iv p2, iv r] [(.ref sgx)])) rfl (hb hby d5_144) (n := 20) (by decide) (by decide) (by decide) (by decide)
  have K532 : Keep h0 h532 [u0] := K517.ext E532
  have CH533 : CHr Z own_EL s.vm h0 T532.vm h532 := CH518.trans CHq532
  have Yr534 : Safe Z own_EL T532.vm h532 u0 := CHr.safe CHq532 f529.lt Yr519
  have Qb532 : Exa Z h532 b532 "[B" := own_litB hZ532.alike Aa532 (Classical.byContradiction fun S_ => (nx532 b532 S_).2 rfl)
  have pre535 : ∀ t, Steps p.tables e below (T532.setTop (mkF m 146 #[rv u0, rv u1, iv p2, iv r] [(.ref a532), (.ref sgx)])) t → Steps p.tables e below (s₁.setTop (entryFrame m #[(.ref u0), (.ref u1), (.int p2)] 4)) t := fun t kt => pre531 t (by
   refine st532 _ ?_
   exact kt)
  have f536 := ((f497.ext E517).ext E532)
  have f537 := ((f498.ext E517).ext E532)
  have f538 := ((f499.ext E517).ext E532)
  have f539 := ((f500.ext E517).ext E532)
  have f540 := (f525.ext E532)
  have f541 := (Nat.le_trans f526 E532.1)
  obtain ⟨cq543, kq543, q543a, q543b, q543c⟩ := isOf hZ532 e532 f536
  obtain ⟨_, _, ⟨T542, L542, k542, n542⟩, -, X542, ⟨Lc542, hQ542, l542, y542, z542⟩, st542⟩ := X532.virtualBack hx (y := own_y25) (z := own_y25) hown532 (mvT hZ532 (own_g hw 121 rfl)) (mvT hZ532 (own_g hw 122 rfl)) (notFace_of_selects (args := #[]) (mvT hZ532 (own_g hw 124 rfl))) (mvT hZ532 (own_g hw 124 rfl)) (mvT hZ532 (own_g hw 123 rfl)) (by decide) (backOf (W := 0) (rmEQ5 l Z a0 hw [] sgx a532 yx kyx zx ysx b532 kc532 [(.int (120 : Int32)), (.int (109 : Int32)), (.int (108 : Int32)), (.int (110 : Int32)), (.int (115 : Int32))] zC h532 n0 f541 f536 f537 f538 f539 Ea532 Va532 Ca532 Aa532 f540 hz (own_n5 hx4)) hZ532 (own_g hw 125 rfl) (own_g hw 8 rfl) (by decide) (by decide)) q543a q543c (g := (mkF m 146 #[rv u0, rv u1, iv p2, iv r] [(.ref a532), (.ref sgx)])) rfl (by rw [hml]; rfl) (Steps.refl _) (argsL := [(.ref a532)]) (rest := []) (lenOf pd__Ljava_lang_Object__Z rfl) rfl (by show 2 * 0 + _ ≤ _; exact Nat.le_of_eq rfl) (hb hby d5_146) (fun _ _ => ⟨rfl, e532, (by decide : 9 + 0 ≤ _), (by decide : 68 + 0 ≤ _)⟩)
  dsimp only [Pt.U, Pt.locs, Pt.cells, Pt.slots] at X542 l542 y542 z542 st542 hQ542
  subst l542 y542 z542
  obtain ⟨rfl, N542q, e542⟩ := hQ542
  have N542 := Fr.app N527 N542q
  have f544 := ((f503.ext E517).ext E532)
  have f545 := ((f505.ext E517).ext E532)
  obtain ⟨T546, h546, X546, e546, W546, st546⟩ := putF X542 hx hZ532 hown532 (host := "") (Or.inl (own_g hw 130 rfl)) Via.refl e542 f545 f544 (Or.inr ⟨(own_g hw 131 rfl), rfl, hnm⟩) (own_g hw 29 rfl) (ty := (.object "java/lang/String")) (by decide) rfl rfl (g := (mkF m 165 #[rv u0, rv u1, iv p2, iv r] [.null, (.ref u0)])) rfl rfl (hb hby d5_165)
  have CH547 : CHr Z own_EL s.vm h0 T532.vm h546 := CH533.trans (CHr.wr W546 Yr534 CH533.1)
  have f546_ : Fld Z h546 u0 "com/example/bundlewright/bundlewright/core/Name" "declared" "Ljava/lang/String;" .null := f545.same W546
  have N548 := Fr.snoc X546 N542 g_u0
  have K549 : Keep h0 h546 [u0] := K532.wr W546 (Or.inl (List.mem_of_getElem? (i := 0) rfl))
  have f550 := ((f529.ext E532).other W546 (Or.inr (slot_ne (Or.inr (own_g hw 117 rfl)) (Or.inr (own_g hw 131 rfl)) (by decide) (t := (.object "java/lang/String")) (t' := (.object "java/lang/String")) (by decide) (by decide))))
  obtain ⟨T551, X551, e551, st551⟩ := getF X546 hx hZ532 hown532 (host := "") (Or.inl (own_g hw 116 rfl)) Via.refl e546 f550 (g := (mkF m 170 #[rv u0, rv u1, iv p2, iv r] [(.ref u0), (.ref u0)])) rfl rfl (hb hby d5_170)
  have pre552 : ∀ t, Steps p.tables e below (T551.setTop (mkF m 173 #[rv u0, rv u1, iv p2, iv r] [(.ref sgx), (.ref u0)])) t → Steps p.tables e below (s₁.setTop (entryFrame m #[(.ref u0), (.ref u1), (.int p2)] 4)) t := fun t kt => pre535 t (by
   show Steps _ _ _ (T532.setTop (mkF m 146 #[rv u0, rv u1, iv p2, iv r] [(.ref a532), (.ref sgx)])) _
   refine st542.trans ?_
   refine XS.ifYes X542.here hx rfl (pc0 := 149) (pc' := 163) rfl (hb hby d5_149) rfl ((if0 _ _).trans (teq (by decide : (0 : Int32) = (0 : Int32))).1) (by decide) (by decide) ?_
   refine XS.aloadN X542.here hx rfl (hb hby d5_163) rfl rfl ?_
   refine XS.aconstNull X542.here hx rfl (hb hby d5_164) ?_
   refine st546 _ ?_
   refine XS.aloadN X546.here hx rfl (hb hby d5_168) rfl rfl ?_
   refine XS.aloadN X546.here hx rfl (hb hby d5_169) rfl rfl ?_
   refine st551 _ ?_
   exact kt)
  have f553 := (Nat.le_trans hk532 (Keep.of_wr W546).1)
  have f554 : Safe Z own_EL T532.vm h546 u0 := (Safe.wr W546 Yr534 CH533.1 Yr534)
  obtain ⟨a555, T555, h555, kk555, b555, kc555, X555, e555, E555, hS555, hk555, hZ555, hown555, Ea555, Ca555, Va555, Aa555, la555, lb555, CHq555, Lt555, nx555, st555⟩ := ldcCH (vs := [(.int (120 : Int32)), (.int (109 : Int32)), (.int (108 : Int32)), (.int (110 : Int32)), (.int (115 : Int32))]) (z := (5 : Int32)) (show Stand p l e ({ frames := 6, cells := 13, slots := 108, locals := 94 } : Room) (s.setVm T532.vm) m _ below meth c _ _ _ _ from X551) hx hZ532 hown532 (own_g hw 120 rfl) wS e551 hS532 f553 hEL (List.mem_of_getElem? (i := 1) rfl) CH547.1 ⟨by decide, rfl⟩ (by decide) rfl (g := (mkF m 173 #[rv u0, rv u1, iv p2, iv r] [(.ref sgx), (.ref u0)])) rfl (hb hby d5_173) (n := 20) (by decide) (by decide) (by decide) (by decide)
  have K555 : Keep h0 h555 [u0] := K549.ext E555
  have CH556 : CHr Z own_EL s.vm h0 T555.vm h555 := CH547.trans CHq555
  have Yr557 : Safe Z own_EL T555.vm h555 u0 := CHr.safe CHq555 f550.lt f554
  have Qb555 : Exa Z h555 b555 "[B" := own_litB hZ555.alike Aa555 (Classical.byContradiction fun S_ => (nx555 b555 S_).2 rfl)
  have pre558 : ∀ t, Steps p.tables e below (T555.setTop (mkF m 175 #[rv u0, rv u1, iv p2, iv r] [(.ref a555), (.ref sgx), (.ref u0)])) t → Steps p.tables e below (s₁.setTop (entryFrame m #[(.ref u0), (.ref u1), (.int p2)] 4)) t := fun t kt => pre552 t (by
   refine st555 _ ?_
   exact kt)
  have f559 := ((f536.wr W546).ext E555)
  have f560 := ((f537.other W546 (Or.inl hxn.1)).ext E555)
  have f561 := ((f538.other W546 (Or.inl hxn.1)).ext E555)
  have f562 := ((f539.other W546 hxn.2).ext E555)
  have f563 := ((f540.wr W546).ext E555)
  have f564 := (Nat.le_trans (Nat.le_trans f541 (Keep.of_wr W546).1) E555.1)
  obtain ⟨cq566, kq566, q566a, q566b, q566c⟩ := isOf hZ555 e555 f559
  obtain ⟨_, _, ⟨T565, L565, k565, n565⟩, -, X565, ⟨Lc565, hQ565, l565, y565, z565⟩, st565⟩ := X555.virtualBack hx (y := own_y25) (z := own_y25) hown555 (mvT hZ555 (own_g hw 121 rfl)) (mvT hZ555 (own_g hw 122 rfl)) (notFace_of_selects (args := #[]) (mvT hZ555 (own_g hw 124 rfl))) (mvT hZ555 (own_g hw 124 rfl)) (mvT hZ555 (own_g hw 123 rfl)) (by decide) (backOf (W := 1) (rmEQ5 l Z a0 hw [] sgx a555 yx kyx zx ysx b555 kc555 [(.int (120 : Int32)), (.int (109 : Int32)), (.int (108 : Int32)), (.int (110 : Int32)), (.int (115 : Int32))] zC h555 n0 f564 f559 f560 f561 f562 Ea555 Va555 Ca555 Aa555 f563 hz (own_n5 hx4)) hZ555 (own_g hw 125 rfl) (own_g hw 8 rfl) (by decide) (by decide)) q566a q566c (g := (mkF m 175 #[rv u0, rv u1, iv p2, iv r] [(.ref a555), (.ref sgx), (.ref u0)])) rfl (by rw [hml]; rfl) (Steps.refl _) (argsL := [(.ref a555)]) (rest := [(.ref u0)]) (lenOf pd__Ljava_lang_Object__Z rfl) rfl (by show 2 * 0 + _ ≤ _; exact Nat.le_of_eq rfl) (hb hby d5_175) (fun _ _ => ⟨rfl, e555, (by decide : 11 + 0 ≤ _), (by decide : 92 + 0 ≤ _)⟩)
  dsimp only [Pt.U, Pt.locs, Pt.cells, Pt.slots] at X565 l565 y565 z565 st565 hQ565
  subst l565 y565 z565
  obtain ⟨rfl, N565q, e565⟩ := hQ565
  have N565 := Fr.app N548 N565q
  have f567 := (f550.ext E555)
  obtain ⟨T568, X568, e568, st568⟩ := getF X565 hx hZ555 hown555 (host := "") (Or.inl (own_g hw 116 rfl)) Via.refl e565 f567 (g := (mkF m 182 #[rv u0, rv u1, iv p2, iv r] [(.ref u0), (.ref u0)])) rfl rfl (hb hby d5_182)
  have pre569 : ∀ t, Steps p.tables e below (T568.setTop (mkF m 185 #[rv u0, rv u1, iv p2, iv r] [(.ref sgx), (.ref u0)])) t → Steps p.tables e below (s₁.setTop (entryFrame m #[(.ref u0), (.ref u1), (.int p2)] 4)) t := fun t kt => pre558 t (by
   show Steps _ _ _ (T555.setTop (mkF m 175 #[rv u0, rv u1, iv p2, iv r] [(.ref a555), (.ref sgx), (.ref u0)])) _
   refine st565.trans ?_
   refine XS.ifNo X565.here hx rfl (hb hby d5_178) rfl ((if0 _ _).trans (teq (by decide : (0 : Int32) = (0 : Int32))).2) ?_
   refine XS.aloadN X565.here hx rfl (hb hby d5_181) rfl rfl ?_
   show Steps _ _ _ (T565.setTop (mkF m 182 #[rv u0, rv u1, iv p2, iv r] [(.ref u0), (.ref u0)])) _
   refine st568 _ ?_
   exact kt)
  obtain ⟨a570, T570, h570, kk570, b570, kc570, X570, e570, E570, hS570, hk570, hZ570, hown570, Ea570, Ca570, Va570, Aa570, la570, lb570, CHq570, Lt570, nx570, st570⟩ := ldcCH (vs := [(.int (120 : Int32)), (.int (109 : Int32)), (.int (108 : Int32))]) (z := (3 : Int32)) (show Stand p l e ({ frames := 6, cells := 13, slots := 108, locals := 94 } : Room) (s.setVm T555.vm) m _ below meth c _ _ _ _ from X568) hx hZ555 hown555 (own_g hw 132 rfl) wS e568 hS555 hk555 hEL (List.mem_of_getElem? (i := 2) rfl) CH556.1 ⟨by decide, rfl⟩ (by decide) rfl (g := (mkF m 185 #[rv u0, rv u1, iv p2, iv r] [(.ref sgx), (.ref u0)])) rfl (hb hby d5_185) (n := 12) (by decide) (by decide) (by decide) (by decide)
  have K570 : Keep h0 h570 [u0] := K555.ext E570
  have CH571 : CHr Z own_EL s.vm h0 T570.vm h570 := CH556.trans CHq570
  have Yr572 : Safe Z own_EL T570.vm h570 u0 := CHr.safe CHq570 f567.lt Yr557
  have Qb570 : Exa Z h570 b570 "[B" := own_litB hZ570.alike Aa570 (Classical.byContradiction fun S_ => (nx570 b570 S_).2 rfl)
  have pre573 : ∀ t, Steps p.tables e below (T570.setTop (mkF m 187 #[rv u0, rv u1, iv p2, iv r] [(.ref a570), (.ref sgx), (.ref u0)])) t → Steps p.tables e below (s₁.setTop (entryFrame m #[(.ref u0), (.ref u1), (.int p2)] 4)) t := fun t kt => pre569 t (by
   refine st570 _ ?_
   exact kt)
  have f574 := (f559.ext E570)
  have f575 := (f560.ext E570)
  have f576 := (f561.ext E570)
  have f577 := (f562.ext E570)
  have f578 := (f563.ext E570)
  have f579 := (Nat.le_trans f564 E570.1)
  obtain ⟨cq581, kq581, q581a, q581b, q581c⟩ := isOf hZ570 e570 f574
  obtain ⟨_, _, ⟨T580, L580, k580, n580⟩, -, X580, ⟨Lc580, hQ580, l580, y580, z580⟩, st580⟩ := X570.virtualBack hx (y := own_y25) (z := own_y25) hown570 (mvT hZ570 (own_g hw 121 rfl)) (mvT hZ570 (own_g hw 122 rfl)) (notFace_of_selects (args := #[]) (mvT hZ570 (own_g hw 124 rfl))) (mvT hZ570 (own_g hw 124 rfl)) (mvT hZ570 (own_g hw 123 rfl)) (by decide) (backOf (W := 1) (rmEQ3 l Z a0 hw [] sgx a570 yx kyx zx ysx b570 kc570 [(.int (120 : Int32)), (.int (109 : Int32)), (.int (108 : Int32))] zC h570 n0 f579 f574 f575 f576 f577 Ea570 Va570 Ca570 Aa570 f578 hz) hZ570 (own_g hw 125 rfl) (own_g hw 8 rfl) (by decide) (by decide)) q581a q581c (g := (mkF m 187 #[rv u0, rv u1, iv p2, iv r] [(.ref a570), (.ref sgx), (.ref u0)])) rfl (by rw [hml]; rfl) (Steps.refl _) (argsL := [(.ref a570)]) (rest := [(.ref u0)]) (lenOf pd__Ljava_lang_Object__Z rfl) rfl (by show 2 * 0 + _ ≤ _; exact Nat.le_of_eq rfl) (hb hby d5_187) (fun _ _ => ⟨rfl, e570, (by decide : 13 + 0 ≤ _), (by decide : 108 + 0 ≤ _)⟩)
  dsimp only [Pt.U, Pt.locs, Pt.cells, Pt.slots] at X580 l580 y580 z580 st580 hQ580
  subst l580 y580 z580
  obtain ⟨rfl, N580q, e580⟩ := hQ580
  have N580 := Fr.app N565 N580q
  have pre583 : ∀ t, Steps p.tables e below (T580.setTop (mkF m 190 #[rv u0, rv u1, iv p2, iv r] [(.int (own_se sgx a570 zx ysx [(.int (120 : Int32)), (.int (109 : Int32)), (.int (108 : Int32))])), (.ref u0)])) t → Steps p.tables e below (s₁.setTop (entryFrame m #[(.ref u0), (.ref u1), (.int p2)] 4)) t := fun t kt => pre573 t (by
   show Steps _ _ _ (T570.setTop (mkF m 187 #[rv u0, rv u1, iv p2, iv r] [(.ref a570), (.ref sgx), (.ref u0)])) _
   refine st580.trans ?_
   exact kt)
  by_cases hc190_582 : (own_se sgx a570 zx ysx [(.int (120 : Int32)), (.int (109 : Int32)), (.int (108 : Int32))]) = (0 : Int32)
  · have f584 := (((f544.wr W546).ext E555).ext E570)
    have f585 := (((((f506.ext E517).ext E532).other W546 (Or.inr (slot_ne (Or.inr (own_g hw 134 rfl)) (Or.inr (own_g hw 131 rfl)) (by decide) (t := .boolean) (t' := (.object "java/lang/String")) (by decide) (by decide)))).ext E555).ext E570)
    obtain ⟨T586, h586, X586, e586, W586, st586⟩ := putFN X580 hx hZ570 hown570 (own_g hw 133 rfl) Via.refl e580 f585 f584 (Or.inr ⟨(own_g hw 134 rfl), rfl, hnm⟩) (own_g hw 29 rfl) (ty := .boolean) (v' := (.int (0 : Int32))) (by decide) rfl rfl (g := (mkF m 198 #[rv u0, rv u1, iv p2, iv r] [(.int (0 : Int32)), (.ref u0)])) rfl rfl (hb hby d5_198)
    have CH587 : CHr Z own_EL s.vm h0 T570.vm h586 := CH571.trans (CHr.wr W586 Yr572 CH571.1)
    have f586_ : Fld Z h586 u0 "com/example/bundlewright/bundlewright/core/Name" "reservedPrefix" "Z" (.int (0 : Int32)) := f585.same W586
    have N588 := Fr.snoc X586 N580 g_u0
    have K589 : Keep h0 h586 [u0] := K570.wr W586 (Or.inl (List.mem_of_getElem? (i := 0) rfl))
    obtain ⟨fs, hr, hrun, hended, hW, hsame⟩ := X586.leave (v := none) (fun _ => rfl)
    have f590 := (f584.wr W586)
    have f591 := ((((((f504.ext E517).ext E532).other W546 (Or.inr (slot_ne (Or.inr (own_g hw 76 rfl)) (Or.inr (own_g hw 131 rfl)) (by decide) (t := (.array .byte)) (t' := (.object "java/lang/String")) (by decide) (by decide)))).ext E555).ext E570).other W586 (Or.inr (slot_ne (Or.inr (own_g hw 76 rfl)) (Or.inr (own_g hw 134 rfl)) (by decide) (t := (.array .byte)) (t' := .boolean) (by decide) (by decide))))
    have f592 := ((((((f515.ext E517).ext E532).other W546 (Ne.symm ne26)).ext E555).ext E570).other W586 (Ne.symm ne26))
    have f593 := (Nat.le_trans hk570 (Keep.of_wr W586).1)
    have qE := hS570.ended (c := ({ frames := 6, cells := 13, slots := 108, locals := 94 } : Room).cells) (k := ({ frames := 6, cells := 13, slots := 108, locals := 94 } : Room).slots) hW (show _ ≤ T586.heap.size from (by rw [e586]; exact f593)) (hsame.mono (by decide) (by decide))
    have qC : CHr Z own_EL s.vm s.heap T586.vm T586.heap := by rw [hh, e586]; exact CH587.trans (CHv.at (show Stand p l e ({ frames := 6, cells := 13, slots := 108, locals := 94 } : Room) (s.setVm T570.vm) m _ below meth c _ _ _ _ from X586) hZ570 hEL CH587.1)
    refine ⟨_, _, pre583 _ ?_, hrun, hended, _, _, rfl, ?_, qC, ⟨_, rfl⟩, qE.1, qE.2.1, qE.2.2⟩
    · refine XS.ifYes X580.here hx rfl (pc0 := 190) (pc' := 197) rfl (hb hby d5_190) rfl ((if0 _ _).trans (teq hc190_582).1) (by decide) (by decide) ?_
      refine XS.iconst X580.here hx rfl (hb hby d5_197) ?_
      refine st586 _ ?_
      show Steps _ _ _ (T586.setTop (mkF m 201 #[rv u0, rv u1, iv p2, iv r] [])) _
      exact X586.returnOut hx Bd.returns (hb hby d5_201) hr
    · show Q_rmNI Z u0 u1 p2 tv kt z vs a8 ai ua zC fv kd kK vK h0 n0 _ T586.heap _
      rw [e586]
      exact ⟨ta_20, ka_20, rfl, N588, K589, zta_20, f590, f591, f592⟩
  · have f594 := (((f544.wr W546).ext E555).ext E570)
    have f595 := (((((f506.ext E517).ext E532).other W546 (Or.inr (slot_ne (Or.inr (own_g hw 134 rfl)) (Or.inr (own_g hw 131 rfl)) (by decide) (t := .boolean) (t' := (.object "java/lang/String")) (by decide) (by decide)))).ext E555).ext E570)
    obtain ⟨T596, h596, X596, e596, W596, st596⟩ := putFN X580 hx hZ570 hown570 (own_g hw 133 rfl) Via.refl e580 f595 f594 (Or.inr ⟨(own_g hw 134 rfl), rfl, hnm⟩) (own_g hw 29 rfl) (ty := .boolean) (v' := (.int (1 : Int32))) (by decide) rfl rfl (g := (mkF m 198 #[rv u0, rv u1, iv p2, iv r] [(.int (1 : Int32)), (.ref u0)])) rfl rfl (hb hby d5_198)
    have CH597 : CHr Z own_EL s.vm h0 T570.vm h596 := CH571.trans (CHr.wr W596 Yr572 CH571.1)
    have f596_ : Fld Z h596 u0 "com/example/bundlewright/bundlewright/core/Name" "reservedPrefix" "Z" (.int (1 : Int32)) := f595.same W596
    have N598 := Fr.snoc X596 N580 g_u0
    have K599 : Keep h0 h596 [u0] := K570.wr W596 (Or.inl (List.mem_of_getElem? (i := 0) rfl))
    obtain ⟨fs, hr, hrun, hended, hW, hsame⟩ := X596.leave (v := none) (fun _ => rfl)
    have f600 := (f594.wr W596)
    have f601 := ((((((f504.ext E517).ext E532).other W546 (Or.inr (slot_ne (Or.inr (own_g hw 76 rfl)) (Or.inr (own_g hw 131 rfl)) (by decide) (t := (.array .byte)) (t' := (.object "java/lang/String")) (by decide) (by decide)))).ext E555).ext E570).other W596 (Or.inr (slot_ne (Or.inr (own_g hw 76 rfl)) (Or.inr (own_g hw 134 rfl)) (by decide) (t := (.array .byte)) (t' := .boolean) (by decide) (by decide))))
    have f602 := ((((((f515.ext E517).ext E532).other W546 (Ne.symm ne26)).ext E555).ext E570).other W596 (Ne.symm ne26))
    have f603 := (Nat.le_trans hk570 (Keep.of_wr W596).1)
    have qE := hS570.ended (c := ({ frames := 6, cells := 13, slots := 108, locals := 94 } : Room).cells) (k := ({ frames := 6, cells := 13, slots := 108, locals := 94 } : Room).slots) hW (show _ ≤ T596.heap.size from (by rw [e596]; exact f603)) (hsame.mono (by decide) (by decide))
    have qC : CHr Z own_EL s.vm s.heap T596.vm T596.heap := by rw [hh, e596]; exact CH597.trans (CHv.at (show Stand p l e ({ frames := 6, cells := 13, slots := 108, locals := 94 } : Room) (s.setVm T570.vm) m _ below meth c _ _ _ _ from X596) hZ570 hEL CH597.1)
    refine ⟨_, _, pre583 _ ?_, hrun, hended, _, _, rfl, ?_, qC, ⟨_, rfl⟩, qE.1, qE.2.1, qE.2.2⟩
    · refine XS.ifNo X580.here hx rfl (hb hby d5_190) rfl ((if0 _ _).trans (feq hc190_582).1) ?_
      refine XS.iconst X580.here hx rfl (hb hby d5_193) ?_
      refine XS.goto X580.here hx rfl (pc0 := 194) (pc' := 198) rfl (hb hby d5_194) (by decide) (by decide) ?_
      refine st596 _ ?_
      show Steps _ _ _ (T596.setTop (mkF m 201 #[rv u0, rv u1, iv p2, iv r] [])) _
      exact X596.returnOut hx Bd.returns (hb hby d5_201) hr
    · show Q_rmNI Z u0 u1 p2 tv kt z vs a8 ai ua zC fv kd kK vK h0 n0 _ T596.heap _
      rw [e596]
      exact ⟨ta_20, ka_20, rfl, N598, K599, zta_20, f600, f601, f602⟩

theorem ef_rmIs (m : MethodId) (x0 : Addr) (x1 : Addr) (x2 : Int32) (x3 : Int32) : entryFrame m #[(.ref x0), (.ref x1), (.int x2), (.int x3)] 6 = mkF m 0 #[rv x0, rv x1, iv x2, iv x3, .unset, .unset] [] := by first | (simp [entryFrame, mkF, argsToLocals, Value.category]; done) | rfl
set_option maxRecDepth 65536 in
set_option maxHeartbeats 40000000 in
theorem rmIs (l : Launch) (Z : State) (a0 : Array Value) (hw : ∀ d ∈ tables_1, d.before a0 Z = true) (ws : List Jvm.Cond) (u0 : Addr) (u1 : Addr) (p2 : Int32) (p3 : Int32) (ta : Addr) (ka : ClassId) (z : Int32) (vs : List Value) (kb : ClassId) (bs : List Value) (h0 : Heap) (n0 : Nat) (Z0 : n0 ≤ h0.size) (P_E_u0 : Exa Z h0 u0 "com/example/bundlewright/bundlewright/core/Name") (P_F_u0_Name_ascii : Fld Z h0 u0 "com/example/bundlewright/bundlewright/core/Name" "ascii" "[B" (.ref ta)) (P_G_ta : Arv Z h0 ta ka .byte z vs (.int 0)) (P_G_u1 : Arv Z h0 u1 kb .byte (8 : Int32) bs (.int 0)) (hz4 : ¬ (4 : Int32) < z) (hss : ¬ p2 < 0 ∧ ¬ (3 : Int32) < p2) :
    own_MF l own_y37 (Jvm.Cond.code own_y37 prog_31_method_12_code 6 (some .boolean)) ws ({ frames := 0, cells := 0, slots := 0, locals := 0 } : Room) #[(.ref u0), (.ref u1), (.int p2), (.int p3)] Z h0 (own_QP (some (.int (own_is p2 p3 z vs bs))) h0 n0) := by
  refine MetFree.of_bodySF (plainFor_of_name pn_21) hisR ?_
  intro p e s m args below meth c s₁ Bd hml0 hP hK
  obtain ⟨rfl, hZ, hh⟩ := hP
  have hx := Bd.exec
  have hby := Bd.bytes
  have hml : c.maxLocals = 6 := hml0
  have hown : s.vm.findClass "com/example/bundlewright/bundlewright/core/Name" = some m.cls := findClass_of_methodNamed Bd.named
  have hnm := (name_of_methodNamed Bd.named Bd.method).1
  have X0 : Stand p l e ({ frames := 0, cells := 0, slots := 0, locals := 0 } : Room) s m #[(.ref u0), (.ref u1), (.int p2), (.int p3)] below meth c s₁ [] 0 0 := Stand.of_body Bd
  have e0 : s₁.heap = h0 := by rw [← hh, Bd.state]; rfl
  have N0 := Fr.nil n0
  have pre0 : ∀ t, Steps p.tables e below (s₁.setTop (mkF m 0 #[rv u0, rv u1, iv p2, iv p3, .unset, .unset] [])) t → Steps p.tables e below (s₁.setTop (entryFrame m #[(.ref u0), (.ref u1), (.int p2), (.int p3)] 6)) t := fun t k => castTop (ef_rmIs m u0 u1 p2 p3) k
  obtain ⟨T1, X1, e1, st1⟩ := getF X0 hx hZ hown (host := "") (Or.inl (own_g hw 75 rfl)) Via.refl e0 P_F_u0_Name_ascii (g := (mkF m 1 #[rv u0, rv u1, iv p2, iv p3, .unset, .unset] [(.ref u0)])) rfl rfl (hb hby d21_1)
  obtain ⟨cl2, Ar2, qq2, S2, N2_, H2, G2⟩ := id P_G_ta
  have pre4 : ∀ t, Steps p.tables e below (T1.setTop (mkF m 12 #[rv u0, rv u1, iv p2, iv p3, rv ta, .unset] [(.int z), (.int (p3 - p2))])) t → Steps p.tables e below (s₁.setTop (entryFrame m #[(.ref u0), (.ref u1), (.int p2), (.int p3)] 6)) t := fun t kt => pre0 t (by
   refine XS.aloadN X0.here hx rfl (hb hby d21_0) rfl rfl ?_
   refine st1 _ ?_
   refine XS.astore X1.here hx rfl (hb hby d21_4) rfl rfl (l' := #[rv u0, rv u1, iv p2, iv p3, rv ta, .unset]) rfl ?_
   refine XS.iloadN X1.here hx rfl (hb hby d21_6) rfl ?_
   refine XS.iloadN X1.here hx rfl (hb hby d21_7) rfl ?_
   refine XS.isub X1.here hx rfl (hb hby d21_8) rfl ?_
   refine XS.aload X1.here hx rfl (hb hby d21_9) rfl rfl ?_
   refine X1.arraylength hx (by rw [e1]; exact Ar2.1) (State.isArrayOf_alike hZ.alike Ar2.2.1) (g := (mkF m 11 #[rv u0, rv u1, iv p2, iv p3, rv ta, .unset] [(.ref ta), (.int (p3 - p2))])) rfl rfl (hb hby d21_11) _ ?_
   rw [len_of S2 N2_]
   exact kt)
  by_cases hc12_3 : (p3 - p2) = z
  · obtain ⟨cl5, Ar5, qq5, S5, N5_, H5, G5⟩ := id P_G_ta
    have pre7 : ∀ t, Steps p.tables e below (T1.setTop (mkF m 25 #[rv u0, rv u1, iv p2, iv p3, rv ta, iv (0 : Int32)] [(.int z), (.int (0 : Int32))])) t → Steps p.tables e below (s₁.setTop (entryFrame m #[(.ref u0), (.ref u1), (.int p2), (.int p3)] 6)) t := fun t kt => pre4 t (by
     refine XS.icmpYes X1.here hx rfl (pc0 := 12) (pc' := 17) rfl (hb hby d21_12) rfl (teq hc12_3).1 (by decide) (by decide) ?_
     refine XS.iconst X1.here hx rfl (hb hby d21_17) ?_
     refine XS.istore X1.here hx rfl (hb hby d21_18) rfl (l' := #[rv u0, rv u1, iv p2, iv p3, rv ta, iv (0 : Int32)]) rfl ?_
     refine XS.iload X1.here hx rfl (hb hby d21_20) rfl ?_
     refine XS.aload X1.here hx rfl (hb hby d21_22) rfl rfl ?_
     refine X1.arraylength hx (by rw [e1]; exact Ar5.1) (State.isArrayOf_alike hZ.alike Ar5.2.1) (g := (mkF m 24 #[rv u0, rv u1, iv p2, iv p3, rv ta, iv (0 : Int32)] [(.ref ta), (.int (0 : Int32))])) rfl rfl (hb hby d21_24) _ ?_
     rw [len_of S5 N5_]
     exact kt)
    by_cases hc25_6 : (0 : Int32) < z
    · obtain ⟨cl8, Ar8, qq8, S8, N8_, H8, G8⟩ := id P_G_u1
      have hin8 : ¬ (p2 < 0 ∨ cl8.slots.size ≤ (p2).toNatClampNeg) := inb_of S8 (own_ia hss)
      have hat8 : cl8.slots[(p2).toNatClampNeg]? = some (.int (own_at bs p2)) := own_atv H8 G8 hin8
      obtain ⟨cl9, Ar9, qq9, S9, N9_, H9, G9⟩ := id P_G_ta
      have hin9 : ¬ ((0 : Int32) < 0 ∨ cl9.slots.size ≤ ((0 : Int32)).toNatClampNeg) := inb_of S9 ⟨by decide, hc25_6⟩
      have hat9 : cl9.slots[((0 : Int32)).toNatClampNeg]? = some (.int (own_at vs (0 : Int32))) := own_atv H9 G9 hin9
      have pre11 : ∀ t, Steps p.tables e below (T1.setTop (mkF m 39 #[rv u0, rv u1, iv p2, iv p3, rv ta, iv (0 : Int32)] [(.int (own_at vs (0 : Int32))), (.int (own_at bs p2))])) t → Steps p.tables e below (s₁.setTop (entryFrame m #[(.ref u0), (.ref u1), (.int p2), (.int p3)] 6)) t := fun t kt => pre7 t (by
       refine XS.icmpNo X1.here hx rfl (hb hby d21_25) rfl (tlt hc25_6).2.1 ?_
       refine XS.aloadN X1.here hx rfl (hb hby d21_28) rfl rfl ?_
       refine XS.iloadN X1.here hx rfl (hb hby d21_29) rfl ?_
       refine XS.iload X1.here hx rfl (hb hby d21_30) rfl ?_
       refine XS.iadd X1.here hx rfl (hb hby d21_32) rfl ?_
       show Steps _ _ _ (T1.setTop (mkF m 33 #[rv u0, rv u1, iv p2, iv p3, rv ta, iv (0 : Int32)] [(.int (p2 + (0 : Int32))), (.ref u1)])) _
       rw [own_az p2]
       refine X1.baloadBytes hx (j := p2) (v := (.int (own_at bs p2))) (by rw [e1]; exact Ar8.1) (State.isArrayOf_alike hZ.alike Ar8.2.1) Ar8.2.2 hin8 hat8 (g := (mkF m 33 #[rv u0, rv u1, iv p2, iv p3, rv ta, iv (0 : Int32)] [(.int p2), (.ref u1)])) rfl rfl (hb hby d21_33) _ ?_
       refine XS.aload X1.here hx rfl (hb hby d21_34) rfl rfl ?_
       refine XS.iload X1.here hx rfl (hb hby d21_36) rfl ?_
       refine X1.baloadBytes hx (j := (0 : Int32)) (v := (.int (own_at vs (0 : Int32)))) (by rw [e1]; exact Ar9.1) (State.isArrayOf_alike hZ.alike Ar9.2.1) Ar9.2.2 hin9 hat9 (g := (mkF m 38 #[rv u0, rv u1, iv p2, iv p3, rv ta, iv (0 : Int32)] [(.int (0 : Int32)), (.ref ta), (.int (own_at bs p2))])) rfl rfl (hb hby d21_38) _ ?_
       exact kt)
      by_cases hc39_10 : (own_at bs p2) = (own_at vs (0 : Int32))
      · obtain ⟨cl12, Ar12, qq12, S12, N12_, H12, G12⟩ := id P_G_ta
        have pre14 : ∀ t, Steps p.tables e below (T1.setTop (mkF m 25 #[rv u0, rv u1, iv p2, iv p3, rv ta, iv (1 : Int32)] [(.int z), (.int (1 : Int32))])) t → Steps p.tables e below (s₁.setTop (entryFrame m #[(.ref u0), (.ref u1), (.int p2), (.int p3)] 6)) t := fun t kt => pre11 t (by
         show Steps _ _ _ (T1.setTop (mkF m 39 #[rv u0, rv u1, iv p2, iv p3, rv ta, iv (0 : Int32)] [(.int (own_at vs (0 : Int32))), (.int (own_at bs p2))])) _
         refine XS.icmpYes X1.here hx rfl (pc0 := 39) (pc' := 44) rfl (hb hby d21_39) rfl (teq hc39_10).1 (by decide) (by decide) ?_
         refine XS.iinc X1.here hx rfl (hb hby d21_44) rfl (l' := #[rv u0, rv u1, iv p2, iv p3, rv ta, iv (1 : Int32)]) rfl ?_
         refine XS.goto X1.here hx rfl (pc0 := 47) (pc' := 20) rfl (hb hby d21_47) (by decide) (by decide) ?_
         refine XS.iload X1.here hx rfl (hb hby d21_20) rfl ?_
         refine XS.aload X1.here hx rfl (hb hby d21_22) rfl rfl ?_
         refine X1.arraylength hx (by rw [e1]; exact Ar12.1) (State.isArrayOf_alike hZ.alike Ar12.2.1) (g := (mkF m 24 #[rv u0, rv u1, iv p2, iv p3, rv ta, iv (1 : Int32)] [(.ref ta), (.int (1 : Int32))])) rfl rfl (hb hby d21_24) _ ?_
         rw [len_of S12 N12_]
         exact kt)
        by_cases hc25_13 : (1 : Int32) < z
        · obtain ⟨cl15, Ar15, qq15, S15, N15_, H15, G15⟩ := id P_G_u1
          have hin15 : ¬ ((p2 + (1 : Int32)) < 0 ∨ cl15.slots.size ≤ ((p2 + (1 : Int32))).toNatClampNeg) := inb_of S15 (own_ib hss (by decide))
          have hat15 : cl15.slots[((p2 + (1 : Int32))).toNatClampNeg]? = some (.int (own_at bs (p2 + (1 : Int32)))) := own_atv H15 G15 hin15
          obtain ⟨cl16, Ar16, qq16, S16, N16_, H16, G16⟩ := id P_G_ta
          have hin16 : ¬ ((1 : Int32) < 0 ∨ cl16.slots.size ≤ ((1 : Int32)).toNatClampNeg) := inb_of S16 ⟨by decide, hc25_13⟩
          have hat16 : cl16.slots[((1 : Int32)).toNatClampNeg]? = some (.int (own_at vs (1 : Int32))) := own_atv H16 G16 hin16
          have pre18 : ∀ t, Steps p.tables e below (T1.setTop (mkF m 39 #[rv u0, rv u1, iv p2, iv p3, rv ta, iv (1 : Int32)] [(.int (own_at vs (1 : Int32))), (.int (own_at bs (p2 + (1 : Int32))))])) t → Steps p.tables e below (s₁.setTop (entryFrame m #[(.ref u0), (.ref u1), (.int p2), (.int p3)] 6)) t := fun t kt => pre14 t (by
           refine XS.icmpNo X1.here hx rfl (hb hby d21_25) rfl (tlt hc25_13).2.1 ?_
           refine XS.aloadN X1.here hx rfl (hb hby d21_28) rfl rfl ?_
           refine XS.iloadN X1.here hx rfl (hb hby d21_29) rfl ?_
           refine XS.iload X1.here hx rfl (hb hby d21_30) rfl ?_
           refine XS.iadd X1.here hx rfl (hb hby d21_32) rfl ?_
           refine X1.baloadBytes hx (j := (p2 + (1 : Int32))) (v := (.int (own_at bs (p2 + (1 : Int32))))) (by rw [e1]; exact Ar15.1) (State.isArrayOf_alike hZ.alike Ar15.2.1) Ar15.2.2 hin15 hat15 (g := (mkF m 33 #[rv u0, rv u1, iv p2, iv p3, rv ta, iv (1 : Int32)] [(.int (p2 + (1 : Int32))), (.ref u1)])) rfl rfl (hb hby d21_33) _ ?_
           refine XS.aload X1.here hx rfl (hb hby d21_34) rfl rfl ?_
           refine XS.iload X1.here hx rfl (hb hby d21_36) rfl ?_
           refine X1.baloadBytes hx (j := (1 : Int32)) (v := (.int (own_at vs (1 : Int32)))) (by rw [e1]; exact Ar16.1) (State.isArrayOf_alike hZ.alike Ar16.2.1) Ar16.2.2 hin16 hat16 (g := (mkF m 38 #[rv u0, rv u1, iv p2, iv p3, rv ta, iv (1 : Int32)] [(.int (1 : Int32)), (.ref ta), (.int (own_at bs (p2 + (1 : Int32))))])) rfl rfl (hb hby d21_38) _ ?_
           exact kt)
          by_cases hc39_17 : (own_at bs (p2 + (1 : Int32))) = (own_at vs (1 : Int32))
          · obtain ⟨cl19, Ar19, qq19, S19, N19_, H19, G19⟩ := id P_G_ta
            have pre21 : ∀ t, Steps p.tables e below (T1.setTop (mkF m 25 #[rv u0, rv u1, iv p2, iv p3, rv ta, iv (2 : Int32)] [(.int z), (.int (2 : Int32))])) t → Steps p.tables e below (s₁.setTop (entryFrame m #[(.ref u0), (.ref u1), (.int p2), (.int p3)] 6)) t := fun t kt => pre18 t (by
             refine XS.icmpYes X1.here hx rfl (pc0 := 39) (pc' := 44) rfl (hb hby d21_39) rfl (teq hc39_17).1 (by decide) (by decide) ?_
             refine XS.iinc X1.here hx rfl (hb hby d21_44) rfl (l' := #[rv u0, rv u1, iv p2, iv p3, rv ta, iv (2 : Int32)]) rfl ?_
             refine XS.goto X1.here hx rfl (pc0 := 47) (pc' := 20) rfl (hb hby d21_47) (by decide) (by decide) ?_
             refine XS.iload X1.here hx rfl (hb hby d21_20) rfl ?_
             refine XS.aload X1.here hx rfl (hb hby d21_22) rfl rfl ?_
             refine X1.arraylength hx (by rw [e1]; exact Ar19.1) (State.isArrayOf_alike hZ.alike Ar19.2.1) (g := (mkF m 24 #[rv u0, rv u1, iv p2, iv p3, rv ta, iv (2 : Int32)] [(.ref ta), (.int (2 : Int32))])) rfl rfl (hb hby d21_24) _ ?_
             rw [len_of S19 N19_]
             exact kt)
            by_cases hc25_20 : (2 : Int32) < z
            · obtain ⟨cl22, Ar22, qq22, S22, N22_, H22, G22⟩ := id P_G_u1
              have hin22 : ¬ ((p2 + (2 : Int32)) < 0 ∨ cl22.slots.size ≤ ((p2 + (2 : Int32))).toNatClampNeg) := inb_of S22 (own_ib hss (by decide))
              have hat22 : cl22.slots[((p2 + (2 : Int32))).toNatClampNeg]? = some (.int (own_at bs (p2 + (2 : Int32)))) := own_atv H22 G22 hin22
              obtain ⟨cl23, Ar23, qq23, S23, N23_, H23, G23⟩ := id P_G_ta
              have hin23 : ¬ ((2 : Int32) < 0 ∨ cl23.slots.size ≤ ((2 : Int32)).toNatClampNeg) := inb_of S23 ⟨by decide, hc25_20⟩
              have hat23 : cl23.slots[((2 : Int32)).toNatClampNeg]? = some (.int (own_at vs (2 : Int32))) := own_atv H23 G23 hin23
              have pre25 : ∀ t, Steps p.tables e below (T1.setTop (mkF m 39 #[rv u0, rv u1, iv p2, iv p3, rv ta, iv (2 : Int32)] [(.int (own_at vs (2 : Int32))), (.int (own_at bs (p2 + (2 : Int32))))])) t → Steps p.tables e below (s₁.setTop (entryFrame m #[(.ref u0), (.ref u1), (.int p2), (.int p3)] 6)) t := fun t kt => pre21 t (by
               refine XS.icmpNo X1.here hx rfl (hb hby d21_25) rfl (tlt hc25_20).2.1 ?_
               refine XS.aloadN X1.here hx rfl (hb hby d21_28) rfl rfl ?_
               refine XS.iloadN X1.here hx rfl (hb hby d21_29) rfl ?_
               show Steps _ _ _ (T1.setTop (mkF m 30 #[rv u0, rv u1, iv p2, iv p3, rv ta, iv (2 : Int32)] [(.int p2), (.ref u1)])) _
               refine XS.iload X1.here hx rfl (hb hby d21_30) rfl ?_
               refine XS.iadd X1.here hx rfl (hb hby d21_32) rfl ?_
               refine X1.baloadBytes hx (j := (p2 + (2 : Int32))) (v := (.int (own_at bs (p2 + (2 : Int32))))) (by rw [e1]; exact Ar22.1) (State.isArrayOf_alike hZ.alike Ar22.2.1) Ar22.2.2 hin22 hat22 (g := (mkF m 33 #[rv u0, rv u1, iv p2, iv p3, rv ta, iv (2 : Int32)] [(.int (p2 + (2 : Int32))), (.ref u1)])) rfl rfl (hb hby d21_33) _ ?_
               refine XS.aload X1.here hx rfl (hb hby d21_34) rfl rfl ?_
               refine XS.iload X1.here hx rfl (hb hby d21_36) rfl ?_
               refine X1.baloadBytes hx (j := (2 : Int32)) (v := (.int (own_at vs (2 : Int32)))) (by rw [e1]; exact Ar23.1) (State.isArrayOf_alike hZ.alike Ar23.2.1) Ar23.2.2 hin23 hat23 (g := (mkF m 38 #[rv u0, rv u1, iv p2, iv p3, rv ta, iv (2 : Int32)] [(.int (2 : Int32)), (.ref ta), (.int (own_at bs (p2 + (2 : Int32))))])) rfl rfl (hb hby d21_38) _ ?_
               exact kt)
              by_cases hc39_24 : (own_at bs (p2 + (2 : Int32))) = (own_at vs (2 : Int32))
              · obtain ⟨cl26, Ar26, qq26, S26, N26_, H26, G26⟩ := id P_G_ta
                have pre28 : ∀ t, Steps p.tables e below (T1.setTop (mkF m 25 #[rv u0, rv u1, iv p2, iv p3, rv ta, iv (3 : Int32)] [(.int z), (.int (3 : Int32))])) t → Steps p.tables e below (s₁.setTop (entryFrame m #[(.ref u0), (.ref u1), (.int p2), (.int p3)] 6)) t := fun t kt => pre25 t (by
                 refine XS.icmpYes X1.here hx rfl (pc0 := 39) (pc' := 44) rfl (hb hby d21_39) rfl (teq hc39_24).1 (by decide) (by decide) ?_
                 refine XS.iinc X1.here hx rfl (hb hby d21_44) rfl (l' := #[rv u0, rv u1, iv p2, iv p3, rv ta, iv (3 : Int32)]) rfl ?_
                 refine XS.goto X1.here hx rfl (pc0 := 47) (pc' := 20) rfl (hb hby d21_47) (by decide) (by decide) ?_
                 refine XS.iload X1.here hx rfl (hb hby d21_20) rfl ?_
                 refine XS.aload X1.here hx rfl (hb hby d21_22) rfl rfl ?_
                 refine X1.arraylength hx (by rw [e1]; exact Ar26.1) (State.isArrayOf_alike hZ.alike Ar26.2.1) (g := (mkF m 24 #[rv u0, rv u1, iv p2, iv p3, rv ta, iv (3 : Int32)] [(.ref ta), (.int (3 : Int32))])) rfl rfl (hb hby d21_24) _ ?_
                 rw [len_of S26 N26_]
                 exact kt)
                by_cases hc25_27 : (3 : Int32) < z
                · obtain ⟨cl29, Ar29, qq29, S29, N29_, H29, G29⟩ := id P_G_u1
                  have hin29 : ¬ ((p2 + (3 : Int32)) < 0 ∨ cl29.slots.size ≤ ((p2 + (3 : Int32))).toNatClampNeg) := inb_of S29 (own_ib hss (by decide))
                  have hat29 : cl29.slots[((p2 + (3 : Int32))).toNatClampNeg]? = some (.int (own_at bs (p2 + (3 : Int32)))) := own_atv H29 G29 hin29
                  obtain ⟨cl30, Ar30, qq30, S30, N30_, H30, G30⟩ := id P_G_ta
                  have hin30 : ¬ ((3 : Int32) < 0 ∨ cl30.slots.size ≤ ((3 : Int32)).toNatClampNeg) := inb_of S30 ⟨by decide, hc25_27⟩
                  have hat30 : cl30.slots[((3 : Int32)).toNatClampNeg]? = some (.int (own_at vs (3 : Int32))) := own_atv H30 G30 hin30
                  have pre32 : ∀ t, Steps p.tables e below (T1.setTop (mkF m 39 #[rv u0, rv u1, iv p2, iv p3, rv ta, iv (3 : Int32)] [(.int (own_at vs (3 : Int32))), (.int (own_at bs (p2 + (3 : Int32))))])) t → Steps p.tables e below (s₁.setTop (entryFrame m #[(.ref u0), (.ref u1), (.int p2), (.int p3)] 6)) t := fun t kt => pre28 t (by
                   refine XS.icmpNo X1.here hx rfl (hb hby d21_25) rfl (tlt hc25_27).2.1 ?_
                   refine XS.aloadN X1.here hx rfl (hb hby d21_28) rfl rfl ?_
                   refine XS.iloadN X1.here hx rfl (hb hby d21_29) rfl ?_
                   refine XS.iload X1.here hx rfl (hb hby d21_30) rfl ?_
                   refine XS.iadd X1.here hx rfl (hb hby d21_32) rfl ?_
                   refine X1.baloadBytes hx (j := (p2 + (3 : Int32))) (v := (.int (own_at bs (p2 + (3 : Int32))))) (by rw [e1]; exact Ar29.1) (State.isArrayOf_alike hZ.alike Ar29.2.1) Ar29.2.2 hin29 hat29 (g := (mkF m 33 #[rv u0, rv u1, iv p2, iv p3, rv ta, iv (3 : Int32)] [(.int (p2 + (3 : Int32))), (.ref u1)])) rfl rfl (hb hby d21_33) _ ?_
                   refine XS.aload X1.here hx rfl (hb hby d21_34) rfl rfl ?_
                   refine XS.iload X1.here hx rfl (hb hby d21_36) rfl ?_
                   refine X1.baloadBytes hx (j := (3 : Int32)) (v := (.int (own_at vs (3 : Int32)))) (by rw [e1]; exact Ar30.1) (State.isArrayOf_alike hZ.alike Ar30.2.1) Ar30.2.2 hin30 hat30 (g := (mkF m 38 #[rv u0, rv u1, iv p2, iv p3, rv ta, iv (3 : Int32)] [(.int (3 : Int32)), (.ref ta), (.int (own_at bs (p2 + (3 : Int32))))])) rfl rfl (hb hby d21_38) _ ?_
                   exact kt)
                  by_cases hc39_31 : (own_at bs (p2 + (3 : Int32))) = (own_at vs (3 : Int32))
                  · obtain ⟨cl33, Ar33, qq33, S33, N33_, H33, G33⟩ := id P_G_ta
                    obtain ⟨fs, hr, hrun, hended, hW, hsame⟩ := X1.leave (v := some (.int (1 : Int32))) (fun h => by rw [Bd.returns] at h; cases h)
                    refine ⟨_, _, pre32 _ ?_, hrun, hended, _, _, rfl, ?_, ⟨_, rfl⟩, hW, hsame.mono (by decide) (by decide)⟩
                    · refine XS.icmpYes X1.here hx rfl (pc0 := 39) (pc' := 44) rfl (hb hby d21_39) rfl (teq hc39_31).1 (by decide) (by decide) ?_
                      refine XS.iinc X1.here hx rfl (hb hby d21_44) rfl (l' := #[rv u0, rv u1, iv p2, iv p3, rv ta, iv (4 : Int32)]) rfl ?_
                      refine XS.goto X1.here hx rfl (pc0 := 47) (pc' := 20) rfl (hb hby d21_47) (by decide) (by decide) ?_
                      show Steps _ _ _ (T1.setTop (mkF m 20 #[rv u0, rv u1, iv p2, iv p3, rv ta, iv (4 : Int32)] [])) _
                      refine XS.iload X1.here hx rfl (hb hby d21_20) rfl ?_
                      refine XS.aload X1.here hx rfl (hb hby d21_22) rfl rfl ?_
                      refine X1.arraylength hx (by rw [e1]; exact Ar33.1) (State.isArrayOf_alike hZ.alike Ar33.2.1) (g := (mkF m 24 #[rv u0, rv u1, iv p2, iv p3, rv ta, iv (4 : Int32)] [(.ref ta), (.int (4 : Int32))])) rfl rfl (hb hby d21_24) _ ?_
                      rw [len_of S33 N33_]
                      refine XS.icmpYes X1.here hx rfl (pc0 := 25) (pc' := 50) rfl (hb hby d21_25) rfl (flt hz4).2.1 (by decide) (by decide) ?_
                      refine XS.iconst X1.here hx rfl (hb hby d21_50) ?_
                      show Steps _ _ _ (T1.setTop (mkF m 51 #[rv u0, rv u1, iv p2, iv p3, rv ta, iv (4 : Int32)] [(.int (1 : Int32))])) _
                      exact retN X1 hx (t := .boolean) Bd.returns (by simp) (hb hby d21_51) hr
                    · show own_QP (some (.int (own_is p2 p3 z vs bs))) h0 n0 _ T1.heap _
                      rw [e1]
                      exact ⟨(congrArg (fun q => some (Value.int q)) (by unfold own_is; rw [if_pos hc12_3, if_pos hc25_6, if_pos hc39_10, if_pos hc25_13, if_pos hc39_17, if_pos hc25_20, if_pos hc39_24, if_pos hc25_27, if_pos hc39_31])), N0, rfl⟩
                  · obtain ⟨fs, hr, hrun, hended, hW, hsame⟩ := X1.leave (v := some (.int (0 : Int32))) (fun h => by rw [Bd.returns] at h; cases h)
                    refine ⟨_, _, pre32 _ ?_, hrun, hended, _, _, rfl, ?_, ⟨_, rfl⟩, hW, hsame.mono (by decide) (by decide)⟩
                    · refine XS.icmpNo X1.here hx rfl (hb hby d21_39) rfl (feq hc39_31).1 ?_
                      refine XS.iconst X1.here hx rfl (hb hby d21_42) ?_
                      show Steps _ _ _ (T1.setTop (mkF m 43 #[rv u0, rv u1, iv p2, iv p3, rv ta, iv (3 : Int32)] [(.int (0 : Int32))])) _
                      exact retN X1 hx (t := .boolean) Bd.returns (by simp) (hb hby d21_43) hr
                    · show own_QP (some (.int (own_is p2 p3 z vs bs))) h0 n0 _ T1.heap _
                      rw [e1]
                      exact ⟨(congrArg (fun q => some (Value.int q)) (by unfold own_is; rw [if_pos hc12_3, if_pos hc25_6, if_pos hc39_10, if_pos hc25_13, if_pos hc39_17, if_pos hc25_20, if_pos hc39_24, if_pos hc25_27, if_neg hc39_31])), N0, rfl⟩
                · obtain ⟨fs, hr, hrun, hended, hW, hsame⟩ := X1.leave (v := some (.int (1 : Int32))) (fun h => by rw [Bd.returns] at h; cases h)
                  refine ⟨_, _, pre28 _ ?_, hrun, hended, _, _, rfl, ?_, ⟨_, rfl⟩, hW, hsame.mono (by decide) (by decide)⟩
                  · refine XS.icmpYes X1.here hx rfl (pc0 := 25) (pc' := 50) rfl (hb hby d21_25) rfl (flt hc25_27).2.1 (by decide) (by decide) ?_
                    refine XS.iconst X1.here hx rfl (hb hby d21_50) ?_
                    show Steps _ _ _ (T1.setTop (mkF m 51 #[rv u0, rv u1, iv p2, iv p3, rv ta, iv (3 : Int32)] [(.int (1 : Int32))])) _
                    exact retN X1 hx (t := .boolean) Bd.returns (by simp) (hb hby d21_51) hr
                  · show own_QP (some (.int (own_is p2 p3 z vs bs))) h0 n0 _ T1.heap _
                    rw [e1]
                    exact ⟨(congrArg (fun q => some (Value.int q)) (by unfold own_is; rw [if_pos hc12_3, if_pos hc25_6, if_pos hc39_10, if_pos hc25_13, if_pos hc39_17, if_pos hc25_20, if_pos hc39_24, if_neg hc25_27])), N0, rfl⟩
              · obtain ⟨fs, hr, hrun, hended, hW, hsame⟩ := X1.leave (v := some (.int (0 : Int32))) (fun h => by rw [Bd.returns] at h; cases h)
                refine ⟨_, _, pre25 _ ?_, hrun, hended, _, _, rfl, ?_, ⟨_, rfl⟩, hW, hsame.mono (by decide) (by decide)⟩
                · refine XS.icmpNo X1.here hx rfl (hb hby d21_39) rfl (feq hc39_24).1 ?_
                  refine XS.iconst X1.here hx rfl (hb hby d21_42) ?_
                  show Steps _ _ _ (T1.setTop (mkF m 43 #[rv u0, rv u1, iv p2, iv p3, rv ta, iv (2 : Int32)] [(.int (0 : Int32))])) _
                  exact retN X1 hx (t := .boolean) Bd.returns (by simp) (hb hby d21_43) hr
                · show own_QP (some (.int (own_is p2 p3 z vs bs))) h0 n0 _ T1.heap _
                  rw [e1]
                  exact ⟨(congrArg (fun q => some (Value.int q)) (by unfold own_is; rw [if_pos hc12_3, if_pos hc25_6, if_pos hc39_10, if_pos hc25_13, if_pos hc39_17, if_pos hc25_20, if_neg hc39_24])), N0, rfl⟩
            · obtain ⟨fs, hr, hrun, hended, hW, hsame⟩ := X1.leave (v := some (.int (1 : Int32))) (fun h => by rw [Bd.returns] at h; cases h)
              refine ⟨_, _, pre21 _ ?_, hrun, hended, _, _, rfl, ?_, ⟨_, rfl⟩, hW, hsame.mono (by decide) (by decide)⟩
              · refine XS.icmpYes X1.here hx rfl (pc0 := 25) (pc' := 50) rfl (hb hby d21_25) rfl (flt hc25_20).2.1 (by decide) (by decide) ?_
                refine XS.iconst X1.here hx rfl (hb hby d21_50) ?_
                show Steps _ _ _ (T1.setTop (mkF m 51 #[rv u0, rv u1, iv p2, iv p3, rv ta, iv (2 : Int32)] [(.int (1 : Int32))])) _
                exact retN X1 hx (t := .boolean) Bd.returns (by simp) (hb hby d21_51) hr
              · show own_QP (some (.int (own_is p2 p3 z vs bs))) h0 n0 _ T1.heap _
                rw [e1]
                exact ⟨(congrArg (fun q => some (Value.int q)) (by unfold own_is; rw [if_pos hc12_3, if_pos hc25_6, if_pos hc39_10, if_pos hc25_13, if_pos hc39_17, if_neg hc25_20])), N0, rfl⟩
          · obtain ⟨fs, hr, hrun, hended, hW, hsame⟩ := X1.leave (v := some (.int (0 : Int32))) (fun h => by rw [Bd.returns] at h; cases h)
            refine ⟨_, _, pre18 _ ?_, hrun, hended, _, _, rfl, ?_, ⟨_, rfl⟩, hW, hsame.mono (by decide) (by decide)⟩
            · refine XS.icmpNo X1.here hx rfl (hb hby d21_39) rfl (feq hc39_17).1 ?_
              refine XS.iconst X1.here hx rfl (hb hby d21_42) ?_
              show Steps _ _ _ (T1.setTop (mkF m 43 #[rv u0, rv u1, iv p2, iv p3, rv ta, iv (1 : Int32)] [(.int (0 : Int32))])) _
              exact retN X1 hx (t := .boolean) Bd.returns (by simp) (hb hby d21_43) hr
            · show own_QP (some (.int (own_is p2 p3 z vs bs))) h0 n0 _ T1.heap _
              rw [e1]
              exact ⟨(congrArg (fun q => some (Value.int q)) (by unfold own_is; rw [if_pos hc12_3, if_pos hc25_6, if_pos hc39_10, if_pos hc25_13, if_neg hc39_17])), N0, rfl⟩
        · obtain ⟨fs, hr, hrun, hended, hW, hsame⟩ := X1.leave (v := some (.int (1 : Int32))) (fun h => by rw [Bd.returns] at h; cases h)
          refine ⟨_, _, pre14 _ ?_, hrun, hended, _, _, rfl, ?_, ⟨_, rfl⟩, hW, hsame.mono (by decide) (by decide)⟩
          · refine XS.icmpYes X1.here hx rfl (pc0 := 25) (pc' := 50) rfl (hb hby d21_25) rfl (flt hc25_13).2.1 (by decide) (by decide) ?_
            refine XS.iconst X1.here hx rfl (hb hby d21_50) ?_
            show Steps _ _ _ (T1.setTop (mkF m 51 #[rv u0, rv u1, iv p2, iv p3, rv ta, iv (1 : Int32)] [(.int (1 : Int32))])) _
            exact retN X1 hx (t := .boolean) Bd.returns (by simp) (hb hby d21_51) hr
          · show own_QP (some (.int (own_is p2 p3 z vs bs))) h0 n0 _ T1.heap _
            rw [e1]
            exact ⟨(congrArg (fun q => some (Value.int q)) (by unfold own_is; rw [if_pos hc12_3, if_pos hc25_6, if_pos hc39_10, if_neg hc25_13])), N0, rfl⟩
      · obtain ⟨fs, hr, hrun, hended, hW, hsame⟩ := X1.leave (v := some (.int (0 : Int32))) (fun h => by rw [Bd.returns] at h; cases h)
        refine ⟨_, _, pre11 _ ?_, hrun, hended, _, _, rfl, ?_, ⟨_, rfl⟩, hW, hsame.mono (by decide) (by decide)⟩
        · refine XS.icmpNo X1.here hx rfl (hb hby d21_39) rfl (feq hc39_10).1 ?_
          refine XS.iconst X1.here hx rfl (hb hby d21_42) ?_
          show Steps _ _ _ (T1.setTop (mkF m 43 #[rv u0, rv u1, iv p2, iv p3, rv ta, iv (0 : Int32)] [(.int (0 : Int32))])) _
          exact retN X1 hx (t := .boolean) Bd.returns (by simp) (hb hby d21_43) hr
        · show own_QP (some (.int (own_is p2 p3 z vs bs))) h0 n0 _ T1.heap _
          rw [e1]
          exact ⟨(congrArg (fun q => some (Value.int q)) (by unfold own_is; rw [if_pos hc12_3, if_pos hc25_6, if_neg hc39_10])), N0, rfl⟩
    · obtain ⟨fs, hr, hrun, hended, hW, hsame⟩ := X1.leave (v := some (.int (1 : Int32))) (fun h => by rw [Bd.returns] at h; cases h)
      refine ⟨_, _, pre7 _ ?_, hrun, hended, _, _, rfl, ?_, ⟨_, rfl⟩, hW, hsame.mono (by decide) (by decide)⟩
      · refine XS.icmpYes X1.here hx rfl (pc0 := 25) (pc' := 50) rfl (hb hby d21_25) rfl (flt hc25_6).2.1 (by decide) (by decide) ?_
        refine XS.iconst X1.here hx rfl (hb hby d21_50) ?_
        show Steps _ _ _ (T1.setTop (mkF m 51 #[rv u0, rv u1, iv p2, iv p3, rv ta, iv (0 : Int32)] [(.int (1 : Int32))])) _
        exact retN X1 hx (t := .boolean) Bd.returns (by simp) (hb hby d21_51) hr
      · show own_QP (some (.int (own_is p2 p3 z vs bs))) h0 n0 _ T1.heap _
        rw [e1]
        exact ⟨(congrArg (fun q => some (Value.int q)) (by unfold own_is; rw [if_pos hc12_3, if_neg hc25_6])), N0, rfl⟩
  · obtain ⟨fs, hr, hrun, hended, hW, hsame⟩ := X1.leave (v := some (.int (0 : Int32))) (fun h => by rw [Bd.returns] at h; cases h)
    refine ⟨_, _, pre4 _ ?_, hrun, hended, _, _, rfl, ?_, ⟨_, rfl⟩, hW, hsame.mono (by decide) (by decide)⟩
    · refine XS.icmpNo X1.here hx rfl (hb hby d21_12) rfl (feq hc12_3).1 ?_
      refine XS.iconst X1.here hx rfl (hb hby d21_15) ?_
      show Steps _ _ _ (T1.setTop (mkF m 16 #[rv u0, rv u1, iv p2, iv p3, rv ta, .unset] [(.int (0 : Int32))])) _
      exact retN X1 hx (t := .boolean) Bd.returns (by simp) (hb hby d21_16) hr
    · show own_QP (some (.int (own_is p2 p3 z vs bs))) h0 n0 _ T1.heap _
      rw [e1]
      exact ⟨(congrArg (fun q => some (Value.int q)) (by unfold own_is; rw [if_neg hc12_3])), N0, rfl⟩

theorem ef_rm0 (m : MethodId) (x0 : Int64) (x1 : Int64) (x2 : Int32) (x3 : Int32) : entryFrame m #[(.long x0), (.long x1), (.int x2), (.int x3)] maxLocals = mkF m 0 #[.val (.long x0), .second, .val (.long x1), .second, iv x2, iv x3, .unset, .unset, .unset, .unset, .unset, .unset, .unset, .unset, .unset, .unset, .unset, .unset] [] := by first | (simp [entryFrame, mkF, argsToLocals, Value.category, maxLocals]; done) | rfl
set_option maxRecDepth 65536 in
set_option maxHeartbeats 40000000 in
theorem rm0 (l : Launch) (Z : State) (a0 : Array Value) (hw : ∀ d ∈ tables_1, d.before a0 Z = true) (ws : List Jvm.Cond) (q0 : Int64) (q1 : Int64) (p2 : Int32) (p3 : Int32) (zC : Int32) (fv : Value) (a8 : Addr) (ai : Addr) (ua : Addr) (kd : Addr) (kK : ClassId) (vK : List Value) (h0 : Heap) (n0 : Nat) (Z0 : n0 ≤ h0.size) (P_S_String_COMPACT_STRINGS : Sta Z h0 "java/lang/String" "COMPACT_STRINGS" "Z" (.int zC)) (hz : ¬ (zC = (0 : Int32))) (P_S_Preconditions_SIOOBE_FORMATTER : Sta Z h0 "jdk/internal/util/Preconditions" "SIOOBE_FORMATTER" "Ljava/util/function/BiFunction;" fv) (hfv : (fv = .null ∨ ∃ a, fv = .ref a)) (P_S_US_ASCII_INSTANCE : Sta Z h0 "sun/nio/cs/US_ASCII" "INSTANCE" "Lsun/nio/cs/US_ASCII;" (.ref ua)) (P_S_UTF_8_INSTANCE : Sta Z h0 "sun/nio/cs/UTF_8" "INSTANCE" "Lsun/nio/cs/UTF_8;" (.ref a8)) (P_S_ISO_8859_1_INSTANCE : Sta Z h0 "sun/nio/cs/ISO_8859_1" "INSTANCE" "Lsun/nio/cs/ISO_8859_1;" (.ref ai)) (neU8 : ua ≠ a8) (neUI : ua ≠ ai) (P_S_StandardCharsets_US_ASCII : Sta Z h0 "java/nio/charset/StandardCharsets" "US_ASCII" "Ljava/nio/charset/Charset;" (.ref ua)) (P_S_Name_KIND : Sta Z h0 "com/example/bundlewright/bundlewright/core/Name" "KIND" "[B" (.ref kd)) (P_G_kd : Arv Z h0 kd kK .byte (128 : Int32) vK (.int 0)) :
    MetFree l x (head1 (Jvm.Cond.code x code maxLocals ret :: ws) room_1) (fun a U => a = #[(.long q0), (.long q1), (.int p2), (.int p3)] ∧ Z.Warmed39 U.vm ∧ U.heap = h0 ∧ CHv Z own_EL U.vm h0) (fun _ _ _ _ _ => True) (fun _ U o U' => ∃ v L, o = .returned v ∧ own_Q0 n0 v U'.heap L ∧ ReturnedEndW U o U' L room_1.cells room_1.slots) := by
  refine MetFree.of_bodySF (plainFor_of_name pn_0) hisR ?_
  intro p e s m args below meth c s₁ Bd hml0 hP hK
  obtain ⟨rfl, hZ, hh, hCH⟩ := hP
  have hx := Bd.exec
  have hby := Bd.bytes
  have hml : c.maxLocals = 18 := hml0
  have hown : s.vm.findClass "com/example/bundlewright/bundlewright/core/NameIsPinLaw" = some m.cls := findClass_of_methodNamed Bd.named
  have hnm := (name_of_methodNamed Bd.named Bd.method).1
  have X0 : Stand p l e room_1 s m #[(.long q0), (.long q1), (.int p2), (.int p3)] below meth c s₁ [] 0 0 := Stand.of_body Bd
  have e0 : s₁.heap = h0 := by rw [← hh, Bd.state]; rfl
  have N0 := Fr.nil n0
  have pre0 : ∀ t, Steps p.tables e below (s₁.setTop (mkF m 0 #[.val (.long q0), .second, .val (.long q1), .second, iv p2, iv p3, .unset, .unset, .unset, .unset, .unset, .unset, .unset, .unset, .unset, .unset, .unset, .unset] [])) t → Steps p.tables e below (s₁.setTop (entryFrame m #[(.long q0), (.long q1), (.int p2), (.int p3)] maxLocals)) t := fun t k => castTop (ef_rm0 m q0 q1 p2 p3) k
  have hEL : EW Z a0 own_EL := own_hEL hw
  have wS : ∀ a ∈ Bundle.stringAtoms, a.before a0 Z = true := fun d hd => hw d ((by decide +kernel : ∀ d ∈ Bundle.stringAtoms, d ∈ tables_1) d hd)
  have CH0 : CHr Z own_EL s.vm h0 s.vm h0 := CHr.refl hCH
  have hS0 : s.Since s.vm h0.size := (State.WarmedH.refl s).since _
  have pre1 : ∀ t, Steps p.tables e below (s₁.setTop (mkF m 58 #[.val (.long q0), .second, .val (.long q1), .second, iv p2, iv p3, iv (((((q0.toUInt64 >>> ((28 : Int32) &&& 0x3f).toInt64.toUInt64).toInt64) &&& (7 : Int64)).toInt32) % (5 : Int32)), iv (((q0 &&& (127 : Int64)).toInt32).toUInt32.toUInt16.toUInt32.toInt32), iv (((((q0.toUInt64 >>> ((7 : Int32) &&& 0x3f).toInt64.toUInt64).toInt64) &&& (127 : Int64)).toInt32).toUInt32.toUInt16.toUInt32.toInt32), iv (((((q0.toUInt64 >>> ((14 : Int32) &&& 0x3f).toInt64.toUInt64).toInt64) &&& (127 : Int64)).toInt32).toUInt32.toUInt16.toUInt32.toInt32), iv (((((q0.toUInt64 >>> ((21 : Int32) &&& 0x3f).toInt64.toUInt64).toInt64) &&& (127 : Int64)).toInt32).toUInt32.toUInt16.toUInt32.toInt32), .unset, .unset, .unset, .unset, .unset, .unset, .unset] [])) t → Steps p.tables e below (s₁.setTop (entryFrame m #[(.long q0), (.long q1), (.int p2), (.int p3)] maxLocals)) t := fun t kt => pre0 t (by
   refine XS.lloadN X0.here hx rfl (hb hby at_0) rfl ?_
   refine XS.bipush X0.here hx rfl (hb hby at_1) ?_
   refine XS.lushr X0.here hx rfl (hb hby at_3) rfl ?_
   refine X0.ldc2Long hx hown (mvT hZ (own_g hw 0 rfl)) (g := (mkF m 4 #[.val (.long q0), .second, .val (.long q1), .second, iv p2, iv p3, .unset, .unset, .unset, .unset, .unset, .unset, .unset, .unset, .unset, .unset, .unset, .unset] [(.long ((q0.toUInt64 >>> ((28 : Int32) &&& 0x3f).toInt64.toUInt64).toInt64))])) rfl (hb hby at_4) _ ?_
   refine XS.land X0.here hx rfl (hb hby at_7) rfl ?_
   refine XS.l2i X0.here hx rfl (hb hby at_8) rfl ?_
   refine XS.iconst X0.here hx rfl (hb hby at_9) ?_
   refine iremM X0 hx rfl (hb hby at_10) rfl (by decide : ¬ ((5 : Int32) = (0 : Int32))) ?_
   refine XS.istore X0.here hx rfl (hb hby at_11) rfl (l' := #[.val (.long q0), .second, .val (.long q1), .second, iv p2, iv p3, iv (((((q0.toUInt64 >>> ((28 : Int32) &&& 0x3f).toInt64.toUInt64).toInt64) &&& (7 : Int64)).toInt32) % (5 : Int32)), .unset, .unset, .unset, .unset, .unset, .unset, .unset, .unset, .unset, .unset, .unset]) rfl ?_
   refine XS.lloadN X0.here hx rfl (hb hby at_13) rfl ?_
   refine X0.ldc2Long hx hown (mvT hZ (own_g hw 1 rfl)) (g := (mkF m 14 #[.val (.long q0), .second, .val (.long q1), .second, iv p2, iv p3, iv (((((q0.toUInt64 >>> ((28 : Int32) &&& 0x3f).toInt64.toUInt64).toInt64) &&& (7 : Int64)).toInt32) % (5 : Int32)), .unset, .unset, .unset, .unset, .unset, .unset, .unset, .unset, .unset, .unset, .unset] [(.long q0)])) rfl (hb hby at_14) _ ?_
   refine XS.land X0.here hx rfl (hb hby at_17) rfl ?_
   refine XS.l2i X0.here hx rfl (hb hby at_18) rfl ?_
   refine XS.i2c X0.here hx rfl (hb hby at_19) rfl ?_
   refine XS.istore X0.here hx rfl (hb hby at_20) rfl (l' := #[.val (.long q0), .second, .val (.long q1), .second, iv p2, iv p3, iv (((((q0.toUInt64 >>> ((28 : Int32) &&& 0x3f).toInt64.toUInt64).toInt64) &&& (7 : Int64)).toInt32) % (5 : Int32)), iv (((q0 &&& (127 : Int64)).toInt32).toUInt32.toUInt16.toUInt32.toInt32), .unset, .unset, .unset, .unset, .unset, .unset, .unset, .unset, .unset, .unset]) rfl ?_
   refine XS.lloadN X0.here hx rfl (hb hby at_22) rfl ?_
   refine XS.bipush X0.here hx rfl (hb hby at_23) ?_
   refine XS.lushr X0.here hx rfl (hb hby at_25) rfl ?_
   refine X0.ldc2Long hx hown (mvT hZ (own_g hw 1 rfl)) (g := (mkF m 26 #[.val (.long q0), .second, .val (.long q1), .second, iv p2, iv p3, iv (((((q0.toUInt64 >>> ((28 : Int32) &&& 0x3f).toInt64.toUInt64).toInt64) &&& (7 : Int64)).toInt32) % (5 : Int32)), iv (((q0 &&& (127 : Int64)).toInt32).toUInt32.toUInt16.toUInt32.toInt32), .unset, .unset, .unset, .unset, .unset, .unset, .unset, .unset, .unset, .unset] [(.long ((q0.toUInt64 >>> ((7 : Int32) &&& 0x3f).toInt64.toUInt64).toInt64))])) rfl (hb hby at_26) _ ?_
   refine XS.land X0.here hx rfl (hb hby at_29) rfl ?_
   refine XS.l2i X0.here hx rfl (hb hby at_30) rfl ?_
   refine XS.i2c X0.here hx rfl (hb hby at_31) rfl ?_
   refine XS.istore X0.here hx rfl (hb hby at_32) rfl (l' := #[.val (.long q0), .second, .val (.long q1), .second, iv p2, iv p3, iv (((((q0.toUInt64 >>> ((28 : Int32) &&& 0x3f).toInt64.toUInt64).toInt64) &&& (7 : Int64)).toInt32) % (5 : Int32)), iv (((q0 &&& (127 : Int64)).toInt32).toUInt32.toUInt16.toUInt32.toInt32), iv (((((q0.toUInt64 >>> ((7 : Int32) &&& 0x3f).toInt64.toUInt64).toInt64) &&& (127 : Int64)).toInt32).toUInt32.toUInt16.toUInt32.toInt32), .unset, .unset, .unset, .unset, .unset, .unset, .unset, .unset, .unset]) rfl ?_
   show Steps _ _ _ (s₁.setTop (mkF m 34 #[.val (.long q0), .second, .val (.long q1), .second, iv p2, iv p3, iv (((((q0.toUInt64 >>> ((28 : Int32) &&& 0x3f).toInt64.toUInt64).toInt64) &&& (7 : Int64)).toInt32) % (5 : Int32)), iv (((q0 &&& (127 : Int64)).toInt32).toUInt32.toUInt16.toUInt32.toInt32), iv (((((q0.toUInt64 >>> ((7 : Int32) &&& 0x3f).toInt64.toUInt64).toInt64) &&& (127 : Int64)).toInt32).toUInt32.toUInt16.toUInt32.toInt32), .unset, .unset, .unset, .unset, .unset, .unset, .unset, .unset, .unset] [])) _
   refine XS.lloadN X0.here hx rfl (hb hby at_34) rfl ?_
   refine XS.bipush X0.here hx rfl (hb hby at_35) ?_
   refine XS.lushr X0.here hx rfl (hb hby at_37) rfl ?_
   refine X0.ldc2Long hx hown (mvT hZ (own_g hw 1 rfl)) (g := (mkF m 38 #[.val (.long q0), .second, .val (.long q1), .second, iv p2, iv p3, iv (((((q0.toUInt64 >>> ((28 : Int32) &&& 0x3f).toInt64.toUInt64).toInt64) &&& (7 : Int64)).toInt32) % (5 : Int32)), iv (((q0 &&& (127 : Int64)).toInt32).toUInt32.toUInt16.toUInt32.toInt32), iv (((((q0.toUInt64 >>> ((7 : Int32) &&& 0x3f).toInt64.toUInt64).toInt64) &&& (127 : Int64)).toInt32).toUInt32.toUInt16.toUInt32.toInt32), .unset, .unset, .unset, .unset, .unset, .unset, .unset, .unset, .unset] [(.long ((q0.toUInt64 >>> ((14 : Int32) &&& 0x3f).toInt64.toUInt64).toInt64))])) rfl (hb hby at_38) _ ?_
   refine XS.land X0.here hx rfl (hb hby at_41) rfl ?_
   refine XS.l2i X0.here hx rfl (hb hby at_42) rfl ?_
   refine XS.i2c X0.here hx rfl (hb hby at_43) rfl ?_
   refine XS.istore X0.here hx rfl (hb hby at_44) rfl (l' := #[.val (.long q0), .second, .val (.long q1), .second, iv p2, iv p3, iv (((((q0.toUInt64 >>> ((28 : Int32) &&& 0x3f).toInt64.toUInt64).toInt64) &&& (7 : Int64)).toInt32) % (5 : Int32)), iv (((q0 &&& (127 : Int64)).toInt32).toUInt32.toUInt16.toUInt32.toInt32), iv (((((q0.toUInt64 >>> ((7 : Int32) &&& 0x3f).toInt64.toUInt64).toInt64) &&& (127 : Int64)).toInt32).toUInt32.toUInt16.toUInt32.toInt32), iv (((((q0.toUInt64 >>> ((14 : Int32) &&& 0x3f).toInt64.toUInt64).toInt64) &&& (127 : Int64)).toInt32).toUInt32.toUInt16.toUInt32.toInt32), .unset, .unset, .unset, .unset, .unset, .unset, .unset, .unset]) rfl ?_
   refine XS.lloadN X0.here hx rfl (hb hby at_46) rfl ?_
   refine XS.bipush X0.here hx rfl (hb hby at_47) ?_
   refine XS.lushr X0.here hx rfl (hb hby at_49) rfl ?_
   refine X0.ldc2Long hx hown (mvT hZ (own_g hw 1 rfl)) (g := (mkF m 50 #[.val (.long q0), .second, .val (.long q1), .second, iv p2, iv p3, iv (((((q0.toUInt64 >>> ((28 : Int32) &&& 0x3f).toInt64.toUInt64).toInt64) &&& (7 : Int64)).toInt32) % (5 : Int32)), iv (((q0 &&& (127 : Int64)).toInt32).toUInt32.toUInt16.toUInt32.toInt32), iv (((((q0.toUInt64 >>> ((7 : Int32) &&& 0x3f).toInt64.toUInt64).toInt64) &&& (127 : Int64)).toInt32).toUInt32.toUInt16.toUInt32.toInt32), iv (((((q0.toUInt64 >>> ((14 : Int32) &&& 0x3f).toInt64.toUInt64).toInt64) &&& (127 : Int64)).toInt32).toUInt32.toUInt16.toUInt32.toInt32), .unset, .unset, .unset, .unset, .unset, .unset, .unset, .unset] [(.long ((q0.toUInt64 >>> ((21 : Int32) &&& 0x3f).toInt64.toUInt64).toInt64))])) rfl (hb hby at_50) _ ?_
   refine XS.land X0.here hx rfl (hb hby at_53) rfl ?_
   refine XS.l2i X0.here hx rfl (hb hby at_54) rfl ?_
   refine XS.i2c X0.here hx rfl (hb hby at_55) rfl ?_
   refine XS.istore X0.here hx rfl (hb hby at_56) rfl (l' := #[.val (.long q0), .second, .val (.long q1), .second, iv p2, iv p3, iv (((((q0.toUInt64 >>> ((28 : Int32) &&& 0x3f).toInt64.toUInt64).toInt64) &&& (7 : Int64)).toInt32) % (5 : Int32)), iv (((q0 &&& (127 : Int64)).toInt32).toUInt32.toUInt16.toUInt32.toInt32), iv (((((q0.toUInt64 >>> ((7 : Int32) &&& 0x3f).toInt64.toUInt64).toInt64) &&& (127 : Int64)).toInt32).toUInt32.toUInt16.toUInt32.toInt32), iv (((((q0.toUInt64 >>> ((14 : Int32) &&& 0x3f).toInt64.toUInt64).toInt64) &&& (127 : Int64)).toInt32).toUInt32.toUInt16.toUInt32.toInt32), iv (((((q0.toUInt64 >>> ((21 : Int32) &&& 0x3f).toInt64.toUInt64).toInt64) &&& (127 : Int64)).toInt32).toUInt32.toUInt16.toUInt32.toInt32), .unset, .unset, .unset, .unset, .unset, .unset, .unset]) rfl ?_
   exact kt)
  obtain ⟨c0, e_c0, hc0⟩ : ∃ c_, (((q0 &&& (127 : Int64)).toInt32).toUInt32.toUInt16.toUInt32.toInt32) = c_ ∧ (¬ c_ < 0 ∧ ¬ (127 : Int32) < c_) := ⟨_, rfl, own_c7 _⟩
  rw [e_c0] at pre1
  obtain ⟨c1, e_c1, hc1⟩ : ∃ c_, (((((q0.toUInt64 >>> ((7 : Int32) &&& 0x3f).toInt64.toUInt64).toInt64) &&& (127 : Int64)).toInt32).toUInt32.toUInt16.toUInt32.toInt32) = c_ ∧ (¬ c_ < 0 ∧ ¬ (127 : Int32) < c_) := ⟨_, rfl, own_c7 _⟩
  rw [e_c1] at pre1
  obtain ⟨c2, e_c2, hc2⟩ : ∃ c_, (((((q0.toUInt64 >>> ((14 : Int32) &&& 0x3f).toInt64.toUInt64).toInt64) &&& (127 : Int64)).toInt32).toUInt32.toUInt16.toUInt32.toInt32) = c_ ∧ (¬ c_ < 0 ∧ ¬ (127 : Int32) < c_) := ⟨_, rfl, own_c7 _⟩
  rw [e_c2] at pre1
  obtain ⟨c3, e_c3, hc3⟩ : ∃ c_, (((((q0.toUInt64 >>> ((21 : Int32) &&& 0x3f).toInt64.toUInt64).toInt64) &&& (127 : Int64)).toInt32).toUInt32.toUInt16.toUInt32.toInt32) = c_ ∧ (¬ c_ < 0 ∧ ¬ (127 : Int32) < c_) := ⟨_, rfl, own_c7 _⟩
  rw [e_c3] at pre1
  obtain ⟨nn, e_nn, hnn⟩ : ∃ c_, (((((q0.toUInt64 >>> ((28 : Int32) &&& 0x3f).toInt64.toUInt64).toInt64) &&& (7 : Int64)).toInt32) % (5 : Int32)) = c_ ∧ (c_ = (0 : Int32) ∨ c_ = (1 : Int32) ∨ c_ = (2 : Int32) ∨ c_ = (3 : Int32) ∨ c_ = (4 : Int32)) := ⟨_, rfl, own_mod5 _⟩
  rw [e_nn] at pre1
  have pre2 : ∀ t, Steps p.tables e below (s₁.setTop (mkF m 68 #[.val (.long q0), .second, .val (.long q1), .second, iv p2, iv p3, iv nn, iv c0, iv c1, iv c2, iv c3, .unset, .unset, .unset, .unset, .unset, .unset, .unset] [(.int c3), (.int c2), (.int c1), (.int c0), (.int nn)])) t → Steps p.tables e below (s₁.setTop (entryFrame m #[(.long q0), (.long q1), (.int p2), (.int p3)] maxLocals)) t := fun t kt => pre1 t (by
   refine XS.iload X0.here hx rfl (hb hby at_58) rfl ?_
   refine XS.iload X0.here hx rfl (hb hby at_60) rfl ?_
   refine XS.iload X0.here hx rfl (hb hby at_62) rfl ?_
   refine XS.iload X0.here hx rfl (hb hby at_64) rfl ?_
   refine XS.iload X0.here hx rfl (hb hby at_66) rfl ?_
   exact kt)
  obtain ⟨_, _, ⟨T3, L3, k3, n3⟩, -, Xw3, hSw3, gr3, ⟨Lc3, hQ3, l3, y3, z3, CHq3⟩, st3⟩ := callSS X0 hx (y := own_y5) hown (mvT hZ (own_g hw 2 rfl)) (mvT hZ (own_g hw 3 rfl)) (mvT hZ (own_g hw 4 rfl)) (mvT hZ (own_g hw 5 rfl)) (by decide) (backOfSH (W := 0) (rmMk l Z a0 hw [] nn c0 c1 c2 c3 zC h0 n0 Z0 P_S_String_COMPACT_STRINGS hz hc0 hc1 hc2 hc3 hnn) hZ (own_g hw 5 rfl) (own_g hw 4 rfl) (by decide) (by decide) hEL CH0.1) (g := (mkF m 68 #[.val (.long q0), .second, .val (.long q1), .second, iv p2, iv p3, iv nn, iv c0, iv c1, iv c2, iv c3, .unset, .unset, .unset, .unset, .unset, .unset, .unset] [(.int c3), (.int c2), (.int c1), (.int c0), (.int nn)])) rfl (by rw [hml]; rfl) (argsL := [(.int nn), (.int c0), (.int c1), (.int c2), (.int c3)]) (rest := []) (lenOf pd__ICCCC_Ljava_lang_String_ rfl) rfl (by show 2 * 0 + _ ≤ _; exact Nat.le_of_eq rfl) (hb hby at_68) (fun _ _ => ⟨rfl, e0, (by decide : 0 + 6 ≤ _), (by decide : 0 + 12 ≤ _)⟩)
  dsimp only [Pt.U, Pt.locs, Pt.cells, Pt.slots] at Xw3 hSw3 gr3 l3 y3 z3 st3 hQ3 CHq3
  subst l3 y3 z3
  obtain ⟨X3, hS3, hZ3, hown3⟩ := rebS hS0 (by rw [e0]; exact (Nat.le_refl h0.size)) Xw3 hSw3 gr3 hZ hown
  obtain ⟨sg_3, t_3, kt_3, rfl, N3q, K3, sx3_0, f4, f5, f6, f7, f8⟩ := hQ3
  have osg_3 : n0 ≤ sg_3 := Nat.le_trans Z0 sx3_0
  have zsg_3 : h0.size ≤ sg_3 := Nat.le_trans (Keep.refl h0 []).1 sx3_0
  have ne9 : kd ≠ sg_3 := Nat.ne_of_lt (Nat.lt_of_lt_of_le P_G_kd.lt sx3_0)
  have KK3 : Keep h0 T3.heap [] := Keep.trans (Keep.refl h0 []) K3 all0
  have CH10 : CHr Z own_EL s.vm h0 T3.vm T3.heap := CH0.trans CHq3
  have N3 := Fr.app N0 N3q
  have f11 := (Nat.le_trans Z0 K3.1)
  obtain ⟨T12, h12, k12, X12, e12, E12, A12, Q12, st12⟩ := newPE X3 hx hZ3 (own_g hw 21 rfl) rfl (g := (mkF m 75 #[.val (.long q0), .second, .val (.long q1), .second, iv p2, iv p3, iv nn, iv c0, iv c1, iv c2, iv c3, rv sg_3, .unset, .unset, .unset, .unset, .unset, .unset] [(.int (8 : Int32))])) rfl (hb hby at_75) rfl (by decide) (cap := 8) (by decide) (by decide) (by decide) (by decide) (ad := "[B") rfl
  obtain ⟨b12, g12⟩ : ∃ z, z = T3.heap.size := ⟨_, rfl⟩
  rw [← g12] at A12 st12 Q12
  have f13 := (P_G_kd.keep K3 nin0)
  have ne14 : kd ≠ b12 := Nat.ne_of_lt (Nat.lt_of_lt_of_le f13.lt (Nat.le_of_eq g12.symm))
  have ne15 : sg_3 ≠ b12 := Nat.ne_of_lt (Nat.lt_of_lt_of_le f4.lt (Nat.le_of_eq g12.symm))
  have ne16 : t_3 ≠ b12 := Nat.ne_of_lt (Nat.lt_of_lt_of_le f7.lt (Nat.le_of_eq g12.symm))
  have o12 : n0 ≤ b12 := Nat.le_trans f11 (Nat.le_of_eq g12.symm)
  have z12 : h0.size ≤ b12 := Nat.le_trans KK3.1 (Nat.le_of_eq g12.symm)
  have CH17 : CHr Z own_EL s.vm h0 T3.vm h12 := CH10.trans (CHr.ext E12 CH10.1)
  have Yb18 : Safe Z own_EL T3.vm h12 b12 := Safe.ext E12 CH10.1 (Safe.new (Nat.le_of_eq g12.symm))
  have K12 : Keep h0 h12 [] := KK3.ext E12
  have V12 : Arv Z h12 b12 k12 .byte (8 : Int32) [(.int (0 : Int32)), (.int (0 : Int32)), (.int (0 : Int32)), (.int (0 : Int32)), (.int (0 : Int32)), (.int (0 : Int32)), (.int (0 : Int32)), (.int (0 : Int32))] (.int (0 : Int32)) := (Arv.new A12 (by decide)).pad (pad_rep [] (.int (0 : Int32)) 8)
  obtain ⟨vx19, V19⟩ : ∃ vx, Arv Z h12 b12 k12 .byte (8 : Int32) vx (.int 0) := ⟨_, V12⟩
  obtain ⟨cl20, Ar20, qq20, S20, N20_, H20, G20⟩ := id V19
  have hin20 : ¬ ((0 : Int32) < 0 ∨ cl20.slots.size ≤ ((0 : Int32)).toNatClampNeg) := inb_of S20 ⟨by decide, by decide⟩
  obtain ⟨T21, h21, X21, e21, W21, st21⟩ := stB X12 hx hZ3 e12 Ar20 (j := (0 : Int32)) hin20 (g := (mkF m 85 #[.val (.long q0), .second, .val (.long q1), .second, iv p2, iv p3, iv nn, iv c0, iv c1, iv c2, iv c3, rv sg_3, rv b12, .unset, .unset, .unset, .unset, .unset] [(.int ((q1.toInt32).toInt8.toInt32)), (.int (0 : Int32)), (.ref b12)])) rfl rfl (hb hby at_85)
  have CH22 : CHr Z own_EL s.vm h0 T3.vm h21 := CH17.trans (CHr.wr W21 Yb18 CH17.1)
  obtain ⟨vx21, V21⟩ := own_setG V19 W21 (fits_nar_byte _)
  have N23 := Fr.snoc X21 N3 o12
  have K24 : Keep h0 h21 [] := K12.wr W21 (Or.inr z12)
  have f25 : Safe Z own_EL T3.vm h21 b12 := (Safe.wr W21 Yb18 CH17.1 Yb18)
  obtain ⟨cl26, Ar26, qq26, S26, N26_, H26, G26⟩ := id V21
  have hin26 : ¬ ((1 : Int32) < 0 ∨ cl26.slots.size ≤ ((1 : Int32)).toNatClampNeg) := inb_of S26 ⟨by decide, by decide⟩
  obtain ⟨T27, h27, X27, e27, W27, st27⟩ := stB X21 hx hZ3 e21 Ar26 (j := (1 : Int32)) hin26 (g := (mkF m 95 #[.val (.long q0), .second, .val (.long q1), .second, iv p2, iv p3, iv nn, iv c0, iv c1, iv c2, iv c3, rv sg_3, rv b12, .unset, .unset, .unset, .unset, .unset] [(.int ((((q1.toUInt64 >>> ((8 : Int32) &&& 0x3f).toInt64.toUInt64).toInt64).toInt32).toInt8.toInt32)), (.int (1 : Int32)), (.ref b12)])) rfl rfl (hb hby at_95)
  have CH28 : CHr Z own_EL s.vm h0 T3.vm h27 := CH22.trans (CHr.wr W27 f25 CH22.1)
  obtain ⟨vx27, V27⟩ := own_setG V21 W27 (fits_nar_byte _)
  have N29 := Fr.snoc X27 N23 o12
  have K30 : Keep h0 h27 [] := K24.wr W27 (Or.inr z12)
  have f31 : Safe Z own_EL T3.vm h27 b12 := (Safe.wr W27 f25 CH22.1 f25)
  obtain ⟨cl32, Ar32, qq32, S32, N32_, H32, G32⟩ := id V27
  have hin32 : ¬ ((2 : Int32) < 0 ∨ cl32.slots.size ≤ ((2 : Int32)).toNatClampNeg) := inb_of S32 ⟨by decide, by decide⟩
  obtain ⟨T33, h33, X33, e33, W33, st33⟩ := stB X27 hx hZ3 e27 Ar32 (j := (2 : Int32)) hin32 (g := (mkF m 105 #[.val (.long q0), .second, .val (.long q1), .second, iv p2, iv p3, iv nn, iv c0, iv c1, iv c2, iv c3, rv sg_3, rv b12, .unset, .unset, .unset, .unset, .unset] [(.int ((((q1.toUInt64 >>> ((16 : Int32) &&& 0x3f).toInt64.toUInt64).toInt64).toInt32).toInt8.toInt32)), (.int (2 : Int32)), (.ref b12)])) rfl rfl (hb hby at_105)
  have CH34 : CHr Z own_EL s.vm h0 T3.vm h33 := CH28.trans (CHr.wr W33 f31 CH28.1)
  obtain ⟨vx33, V33⟩ := own_setG V27 W33 (fits_nar_byte _)
  have N35 := Fr.snoc X33 N29 o12
  have K36 : Keep h0 h33 [] := K30.wr W33 (Or.inr z12)
  have f37 : Safe Z own_EL T3.vm h33 b12 := (Safe.wr W33 f31 CH28.1 f31)
  obtain ⟨cl38, Ar38, qq38, S38, N38_, H38, G38⟩ := id V33
  have hin38 : ¬ ((3 : Int32) < 0 ∨ cl38.slots.size ≤ ((3 : Int32)).toNatClampNeg) := inb_of S38 ⟨by decide, by decide⟩
  obtain ⟨T39, h39, X39, e39, W39, st39⟩ := stB X33 hx hZ3 e33 Ar38 (j := (3 : Int32)) hin38 (g := (mkF m 115 #[.val (.long q0), .second, .val (.long q1), .second, iv p2, iv p3, iv nn, iv c0, iv c1, iv c2, iv c3, rv sg_3, rv b12, .unset, .unset, .unset, .unset, .unset] [(.int ((((q1.toUInt64 >>> ((24 : Int32) &&& 0x3f).toInt64.toUInt64).toInt64).toInt32).toInt8.toInt32)), (.int (3 : Int32)), (.ref b12)])) rfl rfl (hb hby at_115)
  have CH40 : CHr Z own_EL s.vm h0 T3.vm h39 := CH34.trans (CHr.wr W39 f37 CH34.1)
  obtain ⟨vx39, V39⟩ := own_setG V33 W39 (fits_nar_byte _)
  have N41 := Fr.snoc X39 N35 o12
  have K42 : Keep h0 h39 [] := K36.wr W39 (Or.inr z12)
  have f43 : Safe Z own_EL T3.vm h39 b12 := (Safe.wr W39 f37 CH34.1 f37)
  obtain ⟨cl44, Ar44, qq44, S44, N44_, H44, G44⟩ := id V39
  have hin44 : ¬ ((4 : Int32) < 0 ∨ cl44.slots.size ≤ ((4 : Int32)).toNatClampNeg) := inb_of S44 ⟨by decide, by decide⟩
  obtain ⟨T45, h45, X45, e45, W45, st45⟩ := stB X39 hx hZ3 e39 Ar44 (j := (4 : Int32)) hin44 (g := (mkF m 125 #[.val (.long q0), .second, .val (.long q1), .second, iv p2, iv p3, iv nn, iv c0, iv c1, iv c2, iv c3, rv sg_3, rv b12, .unset, .unset, .unset, .unset, .unset] [(.int ((((q1.toUInt64 >>> ((32 : Int32) &&& 0x3f).toInt64.toUInt64).toInt64).toInt32).toInt8.toInt32)), (.int (4 : Int32)), (.ref b12)])) rfl rfl (hb hby at_125)
  have CH46 : CHr Z own_EL s.vm h0 T3.vm h45 := CH40.trans (CHr.wr W45 f43 CH40.1)
  obtain ⟨vx45, V45⟩ := own_setG V39 W45 (fits_nar_byte _)
  have N47 := Fr.snoc X45 N41 o12
  have K48 : Keep h0 h45 [] := K42.wr W45 (Or.inr z12)
  have f49 : Safe Z own_EL T3.vm h45 b12 := (Safe.wr W45 f43 CH40.1 f43)
  obtain ⟨cl50, Ar50, qq50, S50, N50_, H50, G50⟩ := id V45
  have hin50 : ¬ ((5 : Int32) < 0 ∨ cl50.slots.size ≤ ((5 : Int32)).toNatClampNeg) := inb_of S50 ⟨by decide, by decide⟩
  obtain ⟨T51, h51, X51, e51, W51, st51⟩ := stB X45 hx hZ3 e45 Ar50 (j := (5 : Int32)) hin50 (g := (mkF m 135 #[.val (.long q0), .second, .val (.long q1), .second, iv p2, iv p3, iv nn, iv c0, iv c1, iv c2, iv c3, rv sg_3, rv b12, .unset, .unset, .unset, .unset, .unset] [(.int ((((q1.toUInt64 >>> ((40 : Int32) &&& 0x3f).toInt64.toUInt64).toInt64).toInt32).toInt8.toInt32)), (.int (5 : Int32)), (.ref b12)])) rfl rfl (hb hby at_135)
  have CH52 : CHr Z own_EL s.vm h0 T3.vm h51 := CH46.trans (CHr.wr W51 f49 CH46.1)
  obtain ⟨vx51, V51⟩ := own_setG V45 W51 (fits_nar_byte _)
  have N53 := Fr.snoc X51 N47 o12
  have K54 : Keep h0 h51 [] := K48.wr W51 (Or.inr z12)
  have f55 : Safe Z own_EL T3.vm h51 b12 := (Safe.wr W51 f49 CH46.1 f49)
  obtain ⟨cl56, Ar56, qq56, S56, N56_, H56, G56⟩ := id V51
  have hin56 : ¬ ((6 : Int32) < 0 ∨ cl56.slots.size ≤ ((6 : Int32)).toNatClampNeg) := inb_of S56 ⟨by decide, by decide⟩
  obtain ⟨T57, h57, X57, e57, W57, st57⟩ := stB X51 hx hZ3 e51 Ar56 (j := (6 : Int32)) hin56 (g := (mkF m 146 #[.val (.long q0), .second, .val (.long q1), .second, iv p2, iv p3, iv nn, iv c0, iv c1, iv c2, iv c3, rv sg_3, rv b12, .unset, .unset, .unset, .unset, .unset] [(.int ((((q1.toUInt64 >>> ((48 : Int32) &&& 0x3f).toInt64.toUInt64).toInt64).toInt32).toInt8.toInt32)), (.int (6 : Int32)), (.ref b12)])) rfl rfl (hb hby at_146)
  have CH58 : CHr Z own_EL s.vm h0 T3.vm h57 := CH52.trans (CHr.wr W57 f55 CH52.1)
  obtain ⟨vx57, V57⟩ := own_setG V51 W57 (fits_nar_byte _)
  have N59 := Fr.snoc X57 N53 o12
  have K60 : Keep h0 h57 [] := K54.wr W57 (Or.inr z12)
  have f61 : Safe Z own_EL T3.vm h57 b12 := (Safe.wr W57 f55 CH52.1 f55)
  obtain ⟨cl62, Ar62, qq62, S62, N62_, H62, G62⟩ := id V57
  have hin62 : ¬ ((7 : Int32) < 0 ∨ cl62.slots.size ≤ ((7 : Int32)).toNatClampNeg) := inb_of S62 ⟨by decide, by decide⟩
  obtain ⟨T63, h63, X63, e63, W63, st63⟩ := stB X57 hx hZ3 e57 Ar62 (j := (7 : Int32)) hin62 (g := (mkF m 157 #[.val (.long q0), .second, .val (.long q1), .second, iv p2, iv p3, iv nn, iv c0, iv c1, iv c2, iv c3, rv sg_3, rv b12, .unset, .unset, .unset, .unset, .unset] [(.int ((((q1.toUInt64 >>> ((56 : Int32) &&& 0x3f).toInt64.toUInt64).toInt64).toInt32).toInt8.toInt32)), (.int (7 : Int32)), (.ref b12)])) rfl rfl (hb hby at_157)
  have CH64 : CHr Z own_EL s.vm h0 T3.vm h63 := CH58.trans (CHr.wr W63 f61 CH58.1)
  obtain ⟨vx63, V63⟩ := own_setG V57 W63 (fits_nar_byte _)
  have N65 := Fr.snoc X63 N59 o12
  have K66 : Keep h0 h63 [] := K60.wr W63 (Or.inr z12)
  have pre67 : ∀ t, Steps p.tables e below (T63.setTop (mkF m 178 #[.val (.long q0), .second, .val (.long q1), .second, iv p2, iv p3, iv nn, iv c0, iv c1, iv c2, iv c3, rv sg_3, rv b12, iv (p2 &&& (3 : Int32)), iv (((p2 &&& (3 : Int32)) + (((p2.toUInt32 >>> ((2 : Int32) &&& 31).toUInt32).toInt32) &&& (7 : Int32))) - (1 : Int32)), .unset, .unset, .unset] [])) t → Steps p.tables e below (s₁.setTop (entryFrame m #[(.long q0), (.long q1), (.int p2), (.int p3)] maxLocals)) t := fun t kt => pre2 t (by
   show Steps _ _ _ (s₁.setTop (mkF m 68 #[.val (.long q0), .second, .val (.long q1), .second, iv p2, iv p3, iv nn, iv c0, iv c1, iv c2, iv c3, .unset, .unset, .unset, .unset, .unset, .unset, .unset] [(.int c3), (.int c2), (.int c1), (.int c0), (.int nn)])) _
   refine st3.trans ?_
   refine XS.astore X3.here hx rfl (hb hby at_71) rfl rfl (l' := #[.val (.long q0), .second, .val (.long q1), .second, iv p2, iv p3, iv nn, iv c0, iv c1, iv c2, iv c3, rv sg_3, .unset, .unset, .unset, .unset, .unset, .unset]) rfl ?_
   refine XS.bipush X3.here hx rfl (hb hby at_73) ?_
   refine st12 _ ?_
   show Steps _ _ _ (T12.setTop (mkF m 77 #[.val (.long q0), .second, .val (.long q1), .second, iv p2, iv p3, iv nn, iv c0, iv c1, iv c2, iv c3, rv sg_3, .unset, .unset, .unset, .unset, .unset, .unset] [(.ref b12)])) _
   refine XS.astore X12.here hx rfl (hb hby at_77) rfl rfl (l' := #[.val (.long q0), .second, .val (.long q1), .second, iv p2, iv p3, iv nn, iv c0, iv c1, iv c2, iv c3, rv sg_3, rv b12, .unset, .unset, .unset, .unset, .unset]) rfl ?_
   refine XS.aload X12.here hx rfl (hb hby at_79) rfl rfl ?_
   refine XS.iconst X12.here hx rfl (hb hby at_81) ?_
   refine XS.lloadN X12.here hx rfl (hb hby at_82) rfl ?_
   refine XS.l2i X12.here hx rfl (hb hby at_83) rfl ?_
   refine XS.i2b X12.here hx rfl (hb hby at_84) rfl ?_
   refine st21 _ ?_
   refine XS.aload X21.here hx rfl (hb hby at_86) rfl rfl ?_
   refine XS.iconst X21.here hx rfl (hb hby at_88) ?_
   refine XS.lloadN X21.here hx rfl (hb hby at_89) rfl ?_
   refine XS.bipush X21.here hx rfl (hb hby at_90) ?_
   refine XS.lushr X21.here hx rfl (hb hby at_92) rfl ?_
   refine XS.l2i X21.here hx rfl (hb hby at_93) rfl ?_
   refine XS.i2b X21.here hx rfl (hb hby at_94) rfl ?_
   refine st27 _ ?_
   refine XS.aload X27.here hx rfl (hb hby at_96) rfl rfl ?_
   refine XS.iconst X27.here hx rfl (hb hby at_98) ?_
   refine XS.lloadN X27.here hx rfl (hb hby at_99) rfl ?_
   refine XS.bipush X27.here hx rfl (hb hby at_100) ?_
   refine XS.lushr X27.here hx rfl (hb hby at_102) rfl ?_
   refine XS.l2i X27.here hx rfl (hb hby at_103) rfl ?_
   refine XS.i2b X27.here hx rfl (hb hby at_104) rfl ?_
   refine st33 _ ?_
   refine XS.aload X33.here hx rfl (hb hby at_106) rfl rfl ?_
   show Steps _ _ _ (T33.setTop (mkF m 108 #[.val (.long q0), .second, .val (.long q1), .second, iv p2, iv p3, iv nn, iv c0, iv c1, iv c2, iv c3, rv sg_3, rv b12, .unset, .unset, .unset, .unset, .unset] [(.ref b12)])) _
   refine XS.iconst X33.here hx rfl (hb hby at_108) ?_
   refine XS.lloadN X33.here hx rfl (hb hby at_109) rfl ?_
   refine XS.bipush X33.here hx rfl (hb hby at_110) ?_
   refine XS.lushr X33.here hx rfl (hb hby at_112) rfl ?_
   refine XS.l2i X33.here hx rfl (hb hby at_113) rfl ?_
   refine XS.i2b X33.here hx rfl (hb hby at_114) rfl ?_
   refine st39 _ ?_
   refine XS.aload X39.here hx rfl (hb hby at_116) rfl rfl ?_
   refine XS.iconst X39.here hx rfl (hb hby at_118) ?_
   refine XS.lloadN X39.here hx rfl (hb hby at_119) rfl ?_
   refine XS.bipush X39.here hx rfl (hb hby at_120) ?_
   refine XS.lushr X39.here hx rfl (hb hby at_122) rfl ?_
   refine XS.l2i X39.here hx rfl (hb hby at_123) rfl ?_
   refine XS.i2b X39.here hx rfl (hb hby at_124) rfl ?_
   refine st45 _ ?_
   refine XS.aload X45.here hx rfl (hb hby at_126) rfl rfl ?_
   refine XS.iconst X45.here hx rfl (hb hby at_128) ?_
   refine XS.lloadN X45.here hx rfl (hb hby at_129) rfl ?_
   refine XS.bipush X45.here hx rfl (hb hby at_130) ?_
   refine XS.lushr X45.here hx rfl (hb hby at_132) rfl ?_
   refine XS.l2i X45.here hx rfl (hb hby at_133) rfl ?_
   refine XS.i2b X45.here hx rfl (hb hby at_134) rfl ?_
   refine st51 _ ?_
   refine XS.aload X51.here hx rfl (hb hby at_136) rfl rfl ?_
   show Steps _ _ _ (T51.setTop (mkF m 138 #[.val (.long q0), .second, .val (.long q1), .second, iv p2, iv p3, iv nn, iv c0, iv c1, iv c2, iv c3, rv sg_3, rv b12, .unset, .unset, .unset, .unset, .unset] [(.ref b12)])) _
   refine XS.bipush X51.here hx rfl (hb hby at_138) ?_
   refine XS.lloadN X51.here hx rfl (hb hby at_140) rfl ?_
   refine XS.bipush X51.here hx rfl (hb hby at_141) ?_
   refine XS.lushr X51.here hx rfl (hb hby at_143) rfl ?_
   refine XS.l2i X51.here hx rfl (hb hby at_144) rfl ?_
   refine XS.i2b X51.here hx rfl (hb hby at_145) rfl ?_
   refine st57 _ ?_
   refine XS.aload X57.here hx rfl (hb hby at_147) rfl rfl ?_
   refine XS.bipush X57.here hx rfl (hb hby at_149) ?_
   refine XS.lloadN X57.here hx rfl (hb hby at_151) rfl ?_
   refine XS.bipush X57.here hx rfl (hb hby at_152) ?_
   refine XS.lushr X57.here hx rfl (hb hby at_154) rfl ?_
   refine XS.l2i X57.here hx rfl (hb hby at_155) rfl ?_
   refine XS.i2b X57.here hx rfl (hb hby at_156) rfl ?_
   refine st63 _ ?_
   refine XS.iload X63.here hx rfl (hb hby at_158) rfl ?_
   refine XS.iconst X63.here hx rfl (hb hby at_160) ?_
   refine XS.iand X63.here hx rfl (hb hby at_161) rfl ?_
   refine XS.istore X63.here hx rfl (hb hby at_162) rfl (l' := #[.val (.long q0), .second, .val (.long q1), .second, iv p2, iv p3, iv nn, iv c0, iv c1, iv c2, iv c3, rv sg_3, rv b12, iv (p2 &&& (3 : Int32)), .unset, .unset, .unset, .unset]) rfl ?_
   refine XS.iload X63.here hx rfl (hb hby at_164) rfl ?_
   refine XS.iload X63.here hx rfl (hb hby at_166) rfl ?_
   refine XS.iconst X63.here hx rfl (hb hby at_168) ?_
   refine XS.iushr X63.here hx rfl (hb hby at_169) rfl ?_
   refine XS.bipush X63.here hx rfl (hb hby at_170) ?_
   show Steps _ _ _ (T63.setTop (mkF m 172 #[.val (.long q0), .second, .val (.long q1), .second, iv p2, iv p3, iv nn, iv c0, iv c1, iv c2, iv c3, rv sg_3, rv b12, iv (p2 &&& (3 : Int32)), .unset, .unset, .unset, .unset] [(.int (7 : Int32)), (.int ((p2.toUInt32 >>> ((2 : Int32) &&& 31).toUInt32).toInt32)), (.int (p2 &&& (3 : Int32)))])) _
   refine XS.iand X63.here hx rfl (hb hby at_172) rfl ?_
   refine XS.iadd X63.here hx rfl (hb hby at_173) rfl ?_
   refine XS.iconst X63.here hx rfl (hb hby at_174) ?_
   refine XS.isub X63.here hx rfl (hb hby at_175) rfl ?_
   refine XS.istore X63.here hx rfl (hb hby at_176) rfl (l' := #[.val (.long q0), .second, .val (.long q1), .second, iv p2, iv p3, iv nn, iv c0, iv c1, iv c2, iv c3, rv sg_3, rv b12, iv (p2 &&& (3 : Int32)), iv (((p2 &&& (3 : Int32)) + (((p2.toUInt32 >>> ((2 : Int32) &&& 31).toUInt32).toInt32) &&& (7 : Int32))) - (1 : Int32)), .unset, .unset, .unset]) rfl ?_
   exact kt)
  obtain ⟨ee, e_ee⟩ : ∃ c_, (((p2 &&& (3 : Int32)) + (((p2.toUInt32 >>> ((2 : Int32) &&& 31).toUInt32).toInt32) &&& (7 : Int32))) - (1 : Int32)) = c_ := ⟨_, rfl⟩
  rw [e_ee] at pre67
  obtain ⟨ss, e_ss, hss⟩ : ∃ c_, (p2 &&& (3 : Int32)) = c_ ∧ (¬ c_ < 0 ∧ ¬ (3 : Int32) < c_) := ⟨_, rfl, own_m3 _⟩
  rw [e_ss] at pre67
  have pre68 : ∀ t, Steps p.tables e below (T63.setTop (mkF m 184 #[.val (.long q0), .second, .val (.long q1), .second, iv p2, iv p3, iv nn, iv c0, iv c1, iv c2, iv c3, rv sg_3, rv b12, iv ss, iv ee, .unset, .unset, .unset] [(.int (((p2.toUInt32 >>> ((5 : Int32) &&& 31).toUInt32).toInt32) &&& (1 : Int32)))])) t → Steps p.tables e below (s₁.setTop (entryFrame m #[(.long q0), (.long q1), (.int p2), (.int p3)] maxLocals)) t := fun t kt => pre67 t (by
   refine XS.iload X63.here hx rfl (hb hby at_178) rfl ?_
   refine XS.iconst X63.here hx rfl (hb hby at_180) ?_
   refine XS.iushr X63.here hx rfl (hb hby at_181) rfl ?_
   refine XS.iconst X63.here hx rfl (hb hby at_182) ?_
   refine XS.iand X63.here hx rfl (hb hby at_183) rfl ?_
   exact kt)
  have Mg210 : ∃ (T210 : State) (L210 : List Loc) (vs210_b12 : List Value), Stand p l e room_1 (s.setVm T3.vm) m #[(.long q0), (.long q1), (.int p2), (.int p3)] below meth c T210 L210 7 20 ∧ Fr n0 L210 ∧ Keep h0 T210.heap [] ∧ CHr Z own_EL s.vm h0 T3.vm T210.heap ∧ n0 ≤ T210.heap.size ∧ Sta Z T210.heap "java/lang/String" "COMPACT_STRINGS" "Z" (.int zC) ∧ Sta Z T210.heap "jdk/internal/util/Preconditions" "SIOOBE_FORMATTER" "Ljava/util/function/BiFunction;" fv ∧ Sta Z T210.heap "sun/nio/cs/US_ASCII" "INSTANCE" "Lsun/nio/cs/US_ASCII;" (.ref ua) ∧ Sta Z T210.heap "sun/nio/cs/UTF_8" "INSTANCE" "Lsun/nio/cs/UTF_8;" (.ref a8) ∧ Sta Z T210.heap "sun/nio/cs/ISO_8859_1" "INSTANCE" "Lsun/nio/cs/ISO_8859_1;" (.ref ai) ∧ Sta Z T210.heap "java/nio/charset/StandardCharsets" "US_ASCII" "Ljava/nio/charset/Charset;" (.ref ua) ∧ Sta Z T210.heap "com/example/bundlewright/bundlewright/core/Name" "KIND" "[B" (.ref kd) ∧ Arv Z T210.heap kd kK .byte (128 : Int32) vK (.int 0) ∧ T3.heap.size ≤ T210.heap.size ∧ Exa Z T210.heap sg_3 "java/lang/String" ∧ Fld Z T210.heap sg_3 "java/lang/String" "value" "[B" (.ref t_3) ∧ Fld Z T210.heap sg_3 "java/lang/String" "coder" "B" (.int (0 : Int32)) ∧ Exa Z T210.heap t_3 "[B" ∧ Arv Z T210.heap t_3 kt_3 .byte nn (own_nm nn c0 c1 c2 c3) (.int 0) ∧ Safe Z own_EL T3.vm T210.heap b12 ∧ Exa Z T210.heap b12 "[B" ∧ Arv Z T210.heap b12 k12 .byte (8 : Int32) vs210_b12 (.int 0) ∧ (∀ t, Steps p.tables e below (T210.setTop (mkF m 248 #[.val (.long q0), .second, .val (.long q1), .second, iv p2, iv p3, iv nn, iv c0, iv c1, iv c2, iv c3, rv sg_3, rv b12, iv ss, iv ee, .unset, .unset, .unset] [])) t → Steps p.tables e below (s₁.setTop (entryFrame m #[(.long q0), (.long q1), (.int p2), (.int p3)] maxLocals)) t) := by
    by_cases hc184_69 : (((p2.toUInt32 >>> ((5 : Int32) &&& 31).toUInt32).toInt32) &&& (1 : Int32)) = (0 : Int32)
    · have pre70 : ∀ t, Steps p.tables e below (T63.setTop (mkF m 248 #[.val (.long q0), .second, .val (.long q1), .second, iv p2, iv p3, iv nn, iv c0, iv c1, iv c2, iv c3, rv sg_3, rv b12, iv ss, iv ee, .unset, .unset, .unset] [])) t → Steps p.tables e below (s₁.setTop (entryFrame m #[(.long q0), (.long q1), (.int p2), (.int p3)] maxLocals)) t := fun t kt => pre68 t (by
       refine XS.ifYes X63.here hx rfl (pc0 := 184) (pc' := 248) rfl (hb hby at_184) rfl ((if0 _ _).trans (teq hc184_69).1) (by decide) (by decide) ?_
       exact kt)
      have f71 := (Nat.le_trans (Nat.le_trans (Nat.le_trans (Nat.le_trans (Nat.le_trans (Nat.le_trans (Nat.le_trans (Nat.le_trans (Nat.le_trans f11 E12.1) (Keep.of_wr W21).1) (Keep.of_wr W27).1) (Keep.of_wr W33).1) (Keep.of_wr W39).1) (Keep.of_wr W45).1) (Keep.of_wr W51).1) (Keep.of_wr W57).1) (Keep.of_wr W63).1)
      have f72 := ((((((((((own_staKeep P_S_String_COMPACT_STRINGS K3 ns0).ext E12).wr W21).wr W27).wr W33).wr W39).wr W45).wr W51).wr W57).wr W63)
      have f73 := ((((((((((own_staKeep P_S_Preconditions_SIOOBE_FORMATTER K3 ns0).ext E12).wr W21).wr W27).wr W33).wr W39).wr W45).wr W51).wr W57).wr W63)
      have f74 := ((((((((((own_staKeep P_S_US_ASCII_INSTANCE K3 ns0).ext E12).wr W21).wr W27).wr W33).wr W39).wr W45).wr W51).wr W57).wr W63)
      have f75 := ((((((((((own_staKeep P_S_UTF_8_INSTANCE K3 ns0).ext E12).wr W21).wr W27).wr W33).wr W39).wr W45).wr W51).wr W57).wr W63)
      have f76 := ((((((((((own_staKeep P_S_ISO_8859_1_INSTANCE K3 ns0).ext E12).wr W21).wr W27).wr W33).wr W39).wr W45).wr W51).wr W57).wr W63)
      have f77 := ((((((((((own_staKeep P_S_StandardCharsets_US_ASCII K3 ns0).ext E12).wr W21).wr W27).wr W33).wr W39).wr W45).wr W51).wr W57).wr W63)
      have f78 := ((((((((((own_staKeep P_S_Name_KIND K3 ns0).ext E12).wr W21).wr W27).wr W33).wr W39).wr W45).wr W51).wr W57).wr W63)
      have f79 := (((((((((f13.ext E12).other W21 ne14).other W27 ne14).other W33 ne14).other W39 ne14).other W45 ne14).other W51 ne14).other W57 ne14).other W63 ne14)
      have f80 := (Nat.le_trans (Nat.le_trans (Nat.le_trans (Nat.le_trans (Nat.le_trans (Nat.le_trans (Nat.le_trans (Nat.le_trans (Nat.le_trans (Nat.le_refl _) E12.1) (Keep.of_wr W21).1) (Keep.of_wr W27).1) (Keep.of_wr W33).1) (Keep.of_wr W39).1) (Keep.of_wr W45).1) (Keep.of_wr W51).1) (Keep.of_wr W57).1) (Keep.of_wr W63).1)
      have f81 := (((((((((f4.ext E12).wr W21).wr W27).wr W33).wr W39).wr W45).wr W51).wr W57).wr W63)
      have f82 := (((((((((f5.ext E12).other W21 (Or.inl ne15)).other W27 (Or.inl ne15)).other W33 (Or.inl ne15)).other W39 (Or.inl ne15)).other W45 (Or.inl ne15)).other W51 (Or.inl ne15)).other W57 (Or.inl ne15)).other W63 (Or.inl ne15))
      have f83 := (((((((((f6.ext E12).other W21 (Or.inl ne15)).other W27 (Or.inl ne15)).other W33 (Or.inl ne15)).other W39 (Or.inl ne15)).other W45 (Or.inl ne15)).other W51 (Or.inl ne15)).other W57 (Or.inl ne15)).other W63 (Or.inl ne15))
      have f84 := (((((((((f7.ext E12).wr W21).wr W27).wr W33).wr W39).wr W45).wr W51).wr W57).wr W63)
      have f85 := (((((((((f8.ext E12).other W21 ne16).other W27 ne16).other W33 ne16).other W39 ne16).other W45 ne16).other W51 ne16).other W57 ne16).other W63 ne16)
      have f86 : Safe Z own_EL T3.vm h63 b12 := (Safe.wr W63 f61 CH58.1 f61)
      have f87 := ((((((((Q12.wr W21).wr W27).wr W33).wr W39).wr W45).wr W51).wr W57).wr W63)
      exact ⟨T63, _, vx63, X63.more (by decide) (by decide), N65, (by rw [e63]; exact K66), (by rw [e63]; exact CH64), (by rw [e63]; exact f71), (by rw [e63]; exact f72), (by rw [e63]; exact f73), (by rw [e63]; exact f74), (by rw [e63]; exact f75), (by rw [e63]; exact f76), (by rw [e63]; exact f77), (by rw [e63]; exact f78), (by rw [e63]; exact f79), (by rw [e63]; exact f80), (by rw [e63]; exact f81), (by rw [e63]; exact f82), (by rw [e63]; exact f83), (by rw [e63]; exact f84), (by rw [e63]; exact f85), (by rw [e63]; exact f86), (by rw [e63]; exact f87), (by rw [e63]; exact V63), pre70⟩
    · have pre89 : ∀ t, Steps p.tables e below (T63.setTop (mkF m 189 #[.val (.long q0), .second, .val (.long q1), .second, iv p2, iv p3, iv nn, iv c0, iv c1, iv c2, iv c3, rv sg_3, rv b12, iv ss, iv ee, .unset, .unset, .unset] [(.int nn)])) t → Steps p.tables e below (s₁.setTop (entryFrame m #[(.long q0), (.long q1), (.int p2), (.int p3)] maxLocals)) t := fun t kt => pre68 t (by
       refine XS.ifNo X63.here hx rfl (hb hby at_184) rfl ((if0 _ _).trans (feq hc184_69).1) ?_
       refine XS.iload X63.here hx rfl (hb hby at_187) rfl ?_
       exact kt)
      by_cases hc189_88 : (0 : Int32) < nn
      · have f90 : Safe Z own_EL T3.vm h63 b12 := (Safe.wr W63 f61 CH58.1 f61)
        obtain ⟨cl91, Ar91, qq91, S91, N91_, H91, G91⟩ := id V63
        have hin91 : ¬ (ss < 0 ∨ cl91.slots.size ≤ (ss).toNatClampNeg) := inb_of S91 (own_ia hss)
        obtain ⟨T92, h92, X92, e92, W92, st92⟩ := stB X63 hx hZ3 e63 Ar91 (j := ss) hin91 (g := (mkF m 199 #[.val (.long q0), .second, .val (.long q1), .second, iv p2, iv p3, iv nn, iv c0, iv c1, iv c2, iv c3, rv sg_3, rv b12, iv ss, iv ee, .unset, .unset, .unset] [(.int c0), (.int ss), (.ref b12)])) rfl rfl (hb hby at_199)
        have CH93 : CHr Z own_EL s.vm h0 T3.vm h92 := CH64.trans (CHr.wr W92 f90 CH64.1)
        obtain ⟨vx92, V92⟩ := own_setG V63 W92 (fits_nar_byte _)
        have N94 := Fr.snoc X92 N65 o12
        have K95 : Keep h0 h92 [] := K66.wr W92 (Or.inr z12)
        have pre97 : ∀ t, Steps p.tables e below (T92.setTop (mkF m 203 #[.val (.long q0), .second, .val (.long q1), .second, iv p2, iv p3, iv nn, iv c0, iv c1, iv c2, iv c3, rv sg_3, rv b12, iv ss, iv ee, .unset, .unset, .unset] [(.int (1 : Int32)), (.int nn)])) t → Steps p.tables e below (s₁.setTop (entryFrame m #[(.long q0), (.long q1), (.int p2), (.int p3)] maxLocals)) t := fun t kt => pre89 t (by
         refine XS.ifNo X63.here hx rfl (hb hby at_189) rfl ((if0 _ _).trans (tlt hc189_88).2.2.2) ?_
         refine XS.aload X63.here hx rfl (hb hby at_192) rfl rfl ?_
         refine XS.iload X63.here hx rfl (hb hby at_194) rfl ?_
         refine XS.iload X63.here hx rfl (hb hby at_196) rfl ?_
         refine XS.i2b X63.here hx rfl (hb hby at_198) rfl ?_
         show Steps _ _ _ (T63.setTop (mkF m 199 #[.val (.long q0), .second, .val (.long q1), .second, iv p2, iv p3, iv nn, iv c0, iv c1, iv c2, iv c3, rv sg_3, rv b12, iv ss, iv ee, .unset, .unset, .unset] [(.int (c0.toInt8.toInt32)), (.int ss), (.ref b12)])) _
         rw [own_n1 hc0]
         refine st92 _ ?_
         refine XS.iload X92.here hx rfl (hb hby at_200) rfl ?_
         refine XS.iconst X92.here hx rfl (hb hby at_202) ?_
         exact kt)
        by_cases hc203_96 : (1 : Int32) < nn
        · have f98 : Safe Z own_EL T3.vm h92 b12 := (Safe.wr W92 f90 CH64.1 f90)
          obtain ⟨cl99, Ar99, qq99, S99, N99_, H99, G99⟩ := id V92
          have hin99 : ¬ ((ss + (1 : Int32)) < 0 ∨ cl99.slots.size ≤ ((ss + (1 : Int32))).toNatClampNeg) := inb_of S99 (own_ib hss (by decide))
          obtain ⟨T100, h100, X100, e100, W100, st100⟩ := stB X92 hx hZ3 e92 Ar99 (j := (ss + (1 : Int32))) hin99 (g := (mkF m 215 #[.val (.long q0), .second, .val (.long q1), .second, iv p2, iv p3, iv nn, iv c0, iv c1, iv c2, iv c3, rv sg_3, rv b12, iv ss, iv ee, .unset, .unset, .unset] [(.int c1), (.int (ss + (1 : Int32))), (.ref b12)])) rfl rfl (hb hby at_215)
          have CH101 : CHr Z own_EL s.vm h0 T3.vm h100 := CH93.trans (CHr.wr W100 f98 CH93.1)
          obtain ⟨vx100, V100⟩ := own_setG V92 W100 (fits_nar_byte _)
          have N102 := Fr.snoc X100 N94 o12
          have K103 : Keep h0 h100 [] := K95.wr W100 (Or.inr z12)
          have pre105 : ∀ t, Steps p.tables e below (T100.setTop (mkF m 219 #[.val (.long q0), .second, .val (.long q1), .second, iv p2, iv p3, iv nn, iv c0, iv c1, iv c2, iv c3, rv sg_3, rv b12, iv ss, iv ee, .unset, .unset, .unset] [(.int (2 : Int32)), (.int nn)])) t → Steps p.tables e below (s₁.setTop (entryFrame m #[(.long q0), (.long q1), (.int p2), (.int p3)] maxLocals)) t := fun t kt => pre97 t (by
           refine XS.icmpNo X92.here hx rfl (hb hby at_203) rfl (tlt hc203_96).2.2.2 ?_
           refine XS.aload X92.here hx rfl (hb hby at_206) rfl rfl ?_
           refine XS.iload X92.here hx rfl (hb hby at_208) rfl ?_
           show Steps _ _ _ (T92.setTop (mkF m 210 #[.val (.long q0), .second, .val (.long q1), .second, iv p2, iv p3, iv nn, iv c0, iv c1, iv c2, iv c3, rv sg_3, rv b12, iv ss, iv ee, .unset, .unset, .unset] [(.int ss), (.ref b12)])) _
           refine XS.iconst X92.here hx rfl (hb hby at_210) ?_
           refine XS.iadd X92.here hx rfl (hb hby at_211) rfl ?_
           refine XS.iload X92.here hx rfl (hb hby at_212) rfl ?_
           refine XS.i2b X92.here hx rfl (hb hby at_214) rfl ?_
           show Steps _ _ _ (T92.setTop (mkF m 215 #[.val (.long q0), .second, .val (.long q1), .second, iv p2, iv p3, iv nn, iv c0, iv c1, iv c2, iv c3, rv sg_3, rv b12, iv ss, iv ee, .unset, .unset, .unset] [(.int (c1.toInt8.toInt32)), (.int (ss + (1 : Int32))), (.ref b12)])) _
           rw [own_n1 hc1]
           refine st100 _ ?_
           refine XS.iload X100.here hx rfl (hb hby at_216) rfl ?_
           refine XS.iconst X100.here hx rfl (hb hby at_218) ?_
           exact kt)
          by_cases hc219_104 : (2 : Int32) < nn
          · have f106 : Safe Z own_EL T3.vm h100 b12 := (Safe.wr W100 f98 CH93.1 f98)
            obtain ⟨cl107, Ar107, qq107, S107, N107_, H107, G107⟩ := id V100
            have hin107 : ¬ ((ss + (2 : Int32)) < 0 ∨ cl107.slots.size ≤ ((ss + (2 : Int32))).toNatClampNeg) := inb_of S107 (own_ib hss (by decide))
            obtain ⟨T108, h108, X108, e108, W108, st108⟩ := stB X100 hx hZ3 e100 Ar107 (j := (ss + (2 : Int32))) hin107 (g := (mkF m 231 #[.val (.long q0), .second, .val (.long q1), .second, iv p2, iv p3, iv nn, iv c0, iv c1, iv c2, iv c3, rv sg_3, rv b12, iv ss, iv ee, .unset, .unset, .unset] [(.int c2), (.int (ss + (2 : Int32))), (.ref b12)])) rfl rfl (hb hby at_231)
            have CH109 : CHr Z own_EL s.vm h0 T3.vm h108 := CH101.trans (CHr.wr W108 f106 CH101.1)
            obtain ⟨vx108, V108⟩ := own_setG V100 W108 (fits_nar_byte _)
            have N110 := Fr.snoc X108 N102 o12
            have K111 : Keep h0 h108 [] := K103.wr W108 (Or.inr z12)
            have pre113 : ∀ t, Steps p.tables e below (T108.setTop (mkF m 235 #[.val (.long q0), .second, .val (.long q1), .second, iv p2, iv p3, iv nn, iv c0, iv c1, iv c2, iv c3, rv sg_3, rv b12, iv ss, iv ee, .unset, .unset, .unset] [(.int (3 : Int32)), (.int nn)])) t → Steps p.tables e below (s₁.setTop (entryFrame m #[(.long q0), (.long q1), (.int p2), (.int p3)] maxLocals)) t := fun t kt => pre105 t (by
             refine XS.icmpNo X100.here hx rfl (hb hby at_219) rfl (tlt hc219_104).2.2.2 ?_
             refine XS.aload X100.here hx rfl (hb hby at_222) rfl rfl ?_
             refine XS.iload X100.here hx rfl (hb hby at_224) rfl ?_
             refine XS.iconst X100.here hx rfl (hb hby at_226) ?_
             refine XS.iadd X100.here hx rfl (hb hby at_227) rfl ?_
             refine XS.iload X100.here hx rfl (hb hby at_228) rfl ?_
             refine XS.i2b X100.here hx rfl (hb hby at_230) rfl ?_
             show Steps _ _ _ (T100.setTop (mkF m 231 #[.val (.long q0), .second, .val (.long q1), .second, iv p2, iv p3, iv nn, iv c0, iv c1, iv c2, iv c3, rv sg_3, rv b12, iv ss, iv ee, .unset, .unset, .unset] [(.int (c2.toInt8.toInt32)), (.int (ss + (2 : Int32))), (.ref b12)])) _
             rw [own_n1 hc2]
             refine st108 _ ?_
             refine XS.iload X108.here hx rfl (hb hby at_232) rfl ?_
             refine XS.iconst X108.here hx rfl (hb hby at_234) ?_
             exact kt)
            by_cases hc235_112 : (3 : Int32) < nn
            · have f114 : Safe Z own_EL T3.vm h108 b12 := (Safe.wr W108 f106 CH101.1 f106)
              obtain ⟨cl115, Ar115, qq115, S115, N115_, H115, G115⟩ := id V108
              have hin115 : ¬ ((ss + (3 : Int32)) < 0 ∨ cl115.slots.size ≤ ((ss + (3 : Int32))).toNatClampNeg) := inb_of S115 (own_ib hss (by decide))
              obtain ⟨T116, h116, X116, e116, W116, st116⟩ := stB X108 hx hZ3 e108 Ar115 (j := (ss + (3 : Int32))) hin115 (g := (mkF m 247 #[.val (.long q0), .second, .val (.long q1), .second, iv p2, iv p3, iv nn, iv c0, iv c1, iv c2, iv c3, rv sg_3, rv b12, iv ss, iv ee, .unset, .unset, .unset] [(.int c3), (.int (ss + (3 : Int32))), (.ref b12)])) rfl rfl (hb hby at_247)
              have CH117 : CHr Z own_EL s.vm h0 T3.vm h116 := CH109.trans (CHr.wr W116 f114 CH109.1)
              obtain ⟨vx116, V116⟩ := own_setG V108 W116 (fits_nar_byte _)
              have N118 := Fr.snoc X116 N110 o12
              have K119 : Keep h0 h116 [] := K111.wr W116 (Or.inr z12)
              have pre120 : ∀ t, Steps p.tables e below (T116.setTop (mkF m 248 #[.val (.long q0), .second, .val (.long q1), .second, iv p2, iv p3, iv nn, iv c0, iv c1, iv c2, iv c3, rv sg_3, rv b12, iv ss, iv ee, .unset, .unset, .unset] [])) t → Steps p.tables e below (s₁.setTop (entryFrame m #[(.long q0), (.long q1), (.int p2), (.int p3)] maxLocals)) t := fun t kt => pre113 t (by
               refine XS.icmpNo X108.here hx rfl (hb hby at_235) rfl (tlt hc235_112).2.2.2 ?_
               refine XS.aload X108.here hx rfl (hb hby at_238) rfl rfl ?_
               refine XS.iload X108.here hx rfl (hb hby at_240) rfl ?_
               refine XS.iconst X108.here hx rfl (hb hby at_242) ?_
               refine XS.iadd X108.here hx rfl (hb hby at_243) rfl ?_
               refine XS.iload X108.here hx rfl (hb hby at_244) rfl ?_
               refine XS.i2b X108.here hx rfl (hb hby at_246) rfl ?_
               show Steps _ _ _ (T108.setTop (mkF m 247 #[.val (.long q0), .second, .val (.long q1), .second, iv p2, iv p3, iv nn, iv c0, iv c1, iv c2, iv c3, rv sg_3, rv b12, iv ss, iv ee, .unset, .unset, .unset] [(.int (c3.toInt8.toInt32)), (.int (ss + (3 : Int32))), (.ref b12)])) _
               rw [own_n1 hc3]
               show Steps _ _ _ (T108.setTop (mkF m 247 #[.val (.long q0), .second, .val (.long q1), .second, iv p2, iv p3, iv nn, iv c0, iv c1, iv c2, iv c3, rv sg_3, rv b12, iv ss, iv ee, .unset, .unset, .unset] [(.int c3), (.int (ss + (3 : Int32))), (.ref b12)])) _
               refine st116 _ ?_
               exact kt)
              have f121 := (Nat.le_trans (Nat.le_trans (Nat.le_trans (Nat.le_trans (Nat.le_trans (Nat.le_trans (Nat.le_trans (Nat.le_trans (Nat.le_trans (Nat.le_trans (Nat.le_trans (Nat.le_trans (Nat.le_trans f11 E12.1) (Keep.of_wr W21).1) (Keep.of_wr W27).1) (Keep.of_wr W33).1) (Keep.of_wr W39).1) (Keep.of_wr W45).1) (Keep.of_wr W51).1) (Keep.of_wr W57).1) (Keep.of_wr W63).1) (Keep.of_wr W92).1) (Keep.of_wr W100).1) (Keep.of_wr W108).1) (Keep.of_wr W116).1)
              have f122 := ((((((((((((((own_staKeep P_S_String_COMPACT_STRINGS K3 ns0).ext E12).wr W21).wr W27).wr W33).wr W39).wr W45).wr W51).wr W57).wr W63).wr W92).wr W100).wr W108).wr W116)
              have f123 := ((((((((((((((own_staKeep P_S_Preconditions_SIOOBE_FORMATTER K3 ns0).ext E12).wr W21).wr W27).wr W33).wr W39).wr W45).wr W51).wr W57).wr W63).wr W92).wr W100).wr W108).wr W116)
              have f124 := ((((((((((((((own_staKeep P_S_US_ASCII_INSTANCE K3 ns0).ext E12).wr W21).wr W27).wr W33).wr W39).wr W45).wr W51).wr W57).wr W63).wr W92).wr W100).wr W108).wr W116)
              have f125 := ((((((((((((((own_staKeep P_S_UTF_8_INSTANCE K3 ns0).ext E12).wr W21).wr W27).wr W33).wr W39).wr W45).wr W51).wr W57).wr W63).wr W92).wr W100).wr W108).wr W116)
              have f126 := ((((((((((((((own_staKeep P_S_ISO_8859_1_INSTANCE K3 ns0).ext E12).wr W21).wr W27).wr W33).wr W39).wr W45).wr W51).wr W57).wr W63).wr W92).wr W100).wr W108).wr W116)
              have f127 := ((((((((((((((own_staKeep P_S_StandardCharsets_US_ASCII K3 ns0).ext E12).wr W21).wr W27).wr W33).wr W39).wr W45).wr W51).wr W57).wr W63).wr W92).wr W100).wr W108).wr W116)
              have f128 := ((((((((((((((own_staKeep P_S_Name_KIND K3 ns0).ext E12).wr W21).wr W27).wr W33).wr W39).wr W45).wr W51).wr W57).wr W63).wr W92).wr W100).wr W108).wr W116)
              have f129 := (((((((((((((f13.ext E12).other W21 ne14).other W27 ne14).other W33 ne14).other W39 ne14).other W45 ne14).other W51 ne14).other W57 ne14).other W63 ne14).other W92 ne14).other W100 ne14).other W108 ne14).other W116 ne14)
              have f130 := (Nat.le_trans (Nat.le_trans (Nat.le_trans (Nat.le_trans (Nat.le_trans (Nat.le_trans (Nat.le_trans (Nat.le_trans (Nat.le_trans (Nat.le_trans (Nat.le_trans (Nat.le_trans (Nat.le_trans (Nat.le_refl _) E12.1) (Keep.of_wr W21).1) (Keep.of_wr W27).1) (Keep.of_wr W33).1) (Keep.of_wr W39).1) (Keep.of_wr W45).1) (Keep.of_wr W51).1) (Keep.of_wr W57).1) (Keep.of_wr W63).1) (Keep.of_wr W92).1) (Keep.of_wr W100).1) (Keep.of_wr W108).1) (Keep.of_wr W116).1)
              have f131 := (((((((((((((f4.ext E12).wr W21).wr W27).wr W33).wr W39).wr W45).wr W51).wr W57).wr W63).wr W92).wr W100).wr W108).wr W116)
              have f132 := (((((((((((((f5.ext E12).other W21 (Or.inl ne15)).other W27 (Or.inl ne15)).other W33 (Or.inl ne15)).other W39 (Or.inl ne15)).other W45 (Or.inl ne15)).other W51 (Or.inl ne15)).other W57 (Or.inl ne15)).other W63 (Or.inl ne15)).other W92 (Or.inl ne15)).other W100 (Or.inl ne15)).other W108 (Or.inl ne15)).other W116 (Or.inl ne15))
              have f133 := (((((((((((((f6.ext E12).other W21 (Or.inl ne15)).other W27 (Or.inl ne15)).other W33 (Or.inl ne15)).other W39 (Or.inl ne15)).other W45 (Or.inl ne15)).other W51 (Or.inl ne15)).other W57 (Or.inl ne15)).other W63 (Or.inl ne15)).other W92 (Or.inl ne15)).other W100 (Or.inl ne15)).other W108 (Or.inl ne15)).other W116 (Or.inl ne15))
              have f134 := (((((((((((((f7.ext E12).wr W21).wr W27).wr W33).wr W39).wr W45).wr W51).wr W57).wr W63).wr W92).wr W100).wr W108).wr W116)
              have f135 := (((((((((((((f8.ext E12).other W21 ne16).other W27 ne16).other W33 ne16).other W39 ne16).other W45 ne16).other W51 ne16).other W57 ne16).other W63 ne16).other W92 ne16).other W100 ne16).other W108 ne16).other W116 ne16)
              have f136 : Safe Z own_EL T3.vm h116 b12 := (Safe.wr W116 f114 CH109.1 f114)
              have f137 := ((((((((((((Q12.wr W21).wr W27).wr W33).wr W39).wr W45).wr W51).wr W57).wr W63).wr W92).wr W100).wr W108).wr W116)
              exact ⟨T116, _, vx116, X116.more (by decide) (by decide), N118, (by rw [e116]; exact K119), (by rw [e116]; exact CH117), (by rw [e116]; exact f121), (by rw [e116]; exact f122), (by rw [e116]; exact f123), (by rw [e116]; exact f124), (by rw [e116]; exact f125), (by rw [e116]; exact f126), (by rw [e116]; exact f127), (by rw [e116]; exact f128), (by rw [e116]; exact f129), (by rw [e116]; exact f130), (by rw [e116]; exact f131), (by rw [e116]; exact f132), (by rw [e116]; exact f133), (by rw [e116]; exact f134), (by rw [e116]; exact f135), (by rw [e116]; exact f136), (by rw [e116]; exact f137), (by rw [e116]; exact V116), pre120⟩
            · have pre138 : ∀ t, Steps p.tables e below (T108.setTop (mkF m 248 #[.val (.long q0), .second, .val (.long q1), .second, iv p2, iv p3, iv nn, iv c0, iv c1, iv c2, iv c3, rv sg_3, rv b12, iv ss, iv ee, .unset, .unset, .unset] [])) t → Steps p.tables e below (s₁.setTop (entryFrame m #[(.long q0), (.long q1), (.int p2), (.int p3)] maxLocals)) t := fun t kt => pre113 t (by
               refine XS.icmpYes X108.here hx rfl (pc0 := 235) (pc' := 248) rfl (hb hby at_235) rfl (flt hc235_112).2.2.2 (by decide) (by decide) ?_
               exact kt)
              have f139 := (Nat.le_trans (Nat.le_trans (Nat.le_trans (Nat.le_trans (Nat.le_trans (Nat.le_trans (Nat.le_trans (Nat.le_trans (Nat.le_trans (Nat.le_trans (Nat.le_trans (Nat.le_trans f11 E12.1) (Keep.of_wr W21).1) (Keep.of_wr W27).1) (Keep.of_wr W33).1) (Keep.of_wr W39).1) (Keep.of_wr W45).1) (Keep.of_wr W51).1) (Keep.of_wr W57).1) (Keep.of_wr W63).1) (Keep.of_wr W92).1) (Keep.of_wr W100).1) (Keep.of_wr W108).1)
              have f140 := (((((((((((((own_staKeep P_S_String_COMPACT_STRINGS K3 ns0).ext E12).wr W21).wr W27).wr W33).wr W39).wr W45).wr W51).wr W57).wr W63).wr W92).wr W100).wr W108)
              have f141 := (((((((((((((own_staKeep P_S_Preconditions_SIOOBE_FORMATTER K3 ns0).ext E12).wr W21).wr W27).wr W33).wr W39).wr W45).wr W51).wr W57).wr W63).wr W92).wr W100).wr W108)
              have f142 := (((((((((((((own_staKeep P_S_US_ASCII_INSTANCE K3 ns0).ext E12).wr W21).wr W27).wr W33).wr W39).wr W45).wr W51).wr W57).wr W63).wr W92).wr W100).wr W108)
              have f143 := (((((((((((((own_staKeep P_S_UTF_8_INSTANCE K3 ns0).ext E12).wr W21).wr W27).wr W33).wr W39).wr W45).wr W51).wr W57).wr W63).wr W92).wr W100).wr W108)
              have f144 := (((((((((((((own_staKeep P_S_ISO_8859_1_INSTANCE K3 ns0).ext E12).wr W21).wr W27).wr W33).wr W39).wr W45).wr W51).wr W57).wr W63).wr W92).wr W100).wr W108)
              have f145 := (((((((((((((own_staKeep P_S_StandardCharsets_US_ASCII K3 ns0).ext E12).wr W21).wr W27).wr W33).wr W39).wr W45).wr W51).wr W57).wr W63).wr W92).wr W100).wr W108)
              have f146 := (((((((((((((own_staKeep P_S_Name_KIND K3 ns0).ext E12).wr W21).wr W27).wr W33).wr W39).wr W45).wr W51).wr W57).wr W63).wr W92).wr W100).wr W108)
              have f147 := ((((((((((((f13.ext E12).other W21 ne14).other W27 ne14).other W33 ne14).other W39 ne14).other W45 ne14).other W51 ne14).other W57 ne14).other W63 ne14).other W92 ne14).other W100 ne14).other W108 ne14)
              have f148 := (Nat.le_trans (Nat.le_trans (Nat.le_trans (Nat.le_trans (Nat.le_trans (Nat.le_trans (Nat.le_trans (Nat.le_trans (Nat.le_trans (Nat.le_trans (Nat.le_trans (Nat.le_trans (Nat.le_refl _) E12.1) (Keep.of_wr W21).1) (Keep.of_wr W27).1) (Keep.of_wr W33).1) (Keep.of_wr W39).1) (Keep.of_wr W45).1) (Keep.of_wr W51).1) (Keep.of_wr W57).1) (Keep.of_wr W63).1) (Keep.of_wr W92).1) (Keep.of_wr W100).1) (Keep.of_wr W108).1)
              have f149 := ((((((((((((f4.ext E12).wr W21).wr W27).wr W33).wr W39).wr W45).wr W51).wr W57).wr W63).wr W92).wr W100).wr W108)
              have f150 := ((((((((((((f5.ext E12).other W21 (Or.inl ne15)).other W27 (Or.inl ne15)).other W33 (Or.inl ne15)).other W39 (Or.inl ne15)).other W45 (Or.inl ne15)).other W51 (Or.inl ne15)).other W57 (Or.inl ne15)).other W63 (Or.inl ne15)).other W92 (Or.inl ne15)).other W100 (Or.inl ne15)).other W108 (Or.inl ne15))
              have f151 := ((((((((((((f6.ext E12).other W21 (Or.inl ne15)).other W27 (Or.inl ne15)).other W33 (Or.inl ne15)).other W39 (Or.inl ne15)).other W45 (Or.inl ne15)).other W51 (Or.inl ne15)).other W57 (Or.inl ne15)).other W63 (Or.inl ne15)).other W92 (Or.inl ne15)).other W100 (Or.inl ne15)).other W108 (Or.inl ne15))
              have f152 := ((((((((((((f7.ext E12).wr W21).wr W27).wr W33).wr W39).wr W45).wr W51).wr W57).wr W63).wr W92).wr W100).wr W108)
              have f153 := ((((((((((((f8.ext E12).other W21 ne16).other W27 ne16).other W33 ne16).other W39 ne16).other W45 ne16).other W51 ne16).other W57 ne16).other W63 ne16).other W92 ne16).other W100 ne16).other W108 ne16)
              have f154 : Safe Z own_EL T3.vm h108 b12 := (Safe.wr W108 f106 CH101.1 f106)
              have f155 := (((((((((((Q12.wr W21).wr W27).wr W33).wr W39).wr W45).wr W51).wr W57).wr W63).wr W92).wr W100).wr W108)
              exact ⟨T108, _, vx108, X108.more (by decide) (by decide), N110, (by rw [e108]; exact K111), (by rw [e108]; exact CH109), (by rw [e108]; exact f139), (by rw [e108]; exact f140), (by rw [e108]; exact f141), (by rw [e108]; exact f142), (by rw [e108]; exact f143), (by rw [e108]; exact f144), (by rw [e108]; exact f145), (by rw [e108]; exact f146), (by rw [e108]; exact f147), (by rw [e108]; exact f148), (by rw [e108]; exact f149), (by rw [e108]; exact f150), (by rw [e108]; exact f151), (by rw [e108]; exact f152), (by rw [e108]; exact f153), (by rw [e108]; exact f154), (by rw [e108]; exact f155), (by rw [e108]; exact V108), pre138⟩
          · have pre156 : ∀ t, Steps p.tables e below (T100.setTop (mkF m 248 #[.val (.long q0), .second, .val (.long q1), .second, iv p2, iv p3, iv nn, iv c0, iv c1, iv c2, iv c3, rv sg_3, rv b12, iv ss, iv ee, .unset, .unset, .unset] [])) t → Steps p.tables e below (s₁.setTop (entryFrame m #[(.long q0), (.long q1), (.int p2), (.int p3)] maxLocals)) t := fun t kt => pre105 t (by
             refine XS.icmpYes X100.here hx rfl (pc0 := 219) (pc' := 232) rfl (hb hby at_219) rfl (flt hc219_104).2.2.2 (by decide) (by decide) ?_
             refine XS.iload X100.here hx rfl (hb hby at_232) rfl ?_
             refine XS.iconst X100.here hx rfl (hb hby at_234) ?_
             refine XS.icmpYes X100.here hx rfl (pc0 := 235) (pc' := 248) rfl (hb hby at_235) rfl (flt (own_lx (by decide) hc219_104)).2.2.2 (by decide) (by decide) ?_
             exact kt)
            have f157 := (Nat.le_trans (Nat.le_trans (Nat.le_trans (Nat.le_trans (Nat.le_trans (Nat.le_trans (Nat.le_trans (Nat.le_trans (Nat.le_trans (Nat.le_trans (Nat.le_trans f11 E12.1) (Keep.of_wr W21).1) (Keep.of_wr W27).1) (Keep.of_wr W33).1) (Keep.of_wr W39).1) (Keep.of_wr W45).1) (Keep.of_wr W51).1) (Keep.of_wr W57).1) (Keep.of_wr W63).1) (Keep.of_wr W92).1) (Keep.of_wr W100).1)
            have f158 := ((((((((((((own_staKeep P_S_String_COMPACT_STRINGS K3 ns0).ext E12).wr W21).wr W27).wr W33).wr W39).wr W45).wr W51).wr W57).wr W63).wr W92).wr W100)
            have f159 := ((((((((((((own_staKeep P_S_Preconditions_SIOOBE_FORMATTER K3 ns0).ext E12).wr W21).wr W27).wr W33).wr W39).wr W45).wr W51).wr W57).wr W63).wr W92).wr W100)
            have f160 := ((((((((((((own_staKeep P_S_US_ASCII_INSTANCE K3 ns0).ext E12).wr W21).wr W27).wr W33).wr W39).wr W45).wr W51).wr W57).wr W63).wr W92).wr W100)
            have f161 := ((((((((((((own_staKeep P_S_UTF_8_INSTANCE K3 ns0).ext E12).wr W21).wr W27).wr W33).wr W39).wr W45).wr W51).wr W57).wr W63).wr W92).wr W100)
            have f162 := ((((((((((((own_staKeep P_S_ISO_8859_1_INSTANCE K3 ns0).ext E12).wr W21).wr W27).wr W33).wr W39).wr W45).wr W51).wr W57).wr W63).wr W92).wr W100)
            have f163 := ((((((((((((own_staKeep P_S_StandardCharsets_US_ASCII K3 ns0).ext E12).wr W21).wr W27).wr W33).wr W39).wr W45).wr W51).wr W57).wr W63).wr W92).wr W100)
            have f164 := ((((((((((((own_staKeep P_S_Name_KIND K3 ns0).ext E12).wr W21).wr W27).wr W33).wr W39).wr W45).wr W51).wr W57).wr W63).wr W92).wr W100)
            have f165 := (((((((((((f13.ext E12).other W21 ne14).other W27 ne14).other W33 ne14).other W39 ne14).other W45 ne14).other W51 ne14).other W57 ne14).other W63 ne14).other W92 ne14).other W100 ne14)
            have f166 := (Nat.le_trans (Nat.le_trans (Nat.le_trans (Nat.le_trans (Nat.le_trans (Nat.le_trans (Nat.le_trans (Nat.le_trans (Nat.le_trans (Nat.le_trans (Nat.le_trans (Nat.le_refl _) E12.1) (Keep.of_wr W21).1) (Keep.of_wr W27).1) (Keep.of_wr W33).1) (Keep.of_wr W39).1) (Keep.of_wr W45).1) (Keep.of_wr W51).1) (Keep.of_wr W57).1) (Keep.of_wr W63).1) (Keep.of_wr W92).1) (Keep.of_wr W100).1)
            have f167 := (((((((((((f4.ext E12).wr W21).wr W27).wr W33).wr W39).wr W45).wr W51).wr W57).wr W63).wr W92).wr W100)
            have f168 := (((((((((((f5.ext E12).other W21 (Or.inl ne15)).other W27 (Or.inl ne15)).other W33 (Or.inl ne15)).other W39 (Or.inl ne15)).other W45 (Or.inl ne15)).other W51 (Or.inl ne15)).other W57 (Or.inl ne15)).other W63 (Or.inl ne15)).other W92 (Or.inl ne15)).other W100 (Or.inl ne15))
            have f169 := (((((((((((f6.ext E12).other W21 (Or.inl ne15)).other W27 (Or.inl ne15)).other W33 (Or.inl ne15)).other W39 (Or.inl ne15)).other W45 (Or.inl ne15)).other W51 (Or.inl ne15)).other W57 (Or.inl ne15)).other W63 (Or.inl ne15)).other W92 (Or.inl ne15)).other W100 (Or.inl ne15))
            have f170 := (((((((((((f7.ext E12).wr W21).wr W27).wr W33).wr W39).wr W45).wr W51).wr W57).wr W63).wr W92).wr W100)
            have f171 := (((((((((((f8.ext E12).other W21 ne16).other W27 ne16).other W33 ne16).other W39 ne16).other W45 ne16).other W51 ne16).other W57 ne16).other W63 ne16).other W92 ne16).other W100 ne16)
            have f172 : Safe Z own_EL T3.vm h100 b12 := (Safe.wr W100 f98 CH93.1 f98)
            have f173 := ((((((((((Q12.wr W21).wr W27).wr W33).wr W39).wr W45).wr W51).wr W57).wr W63).wr W92).wr W100)
            exact ⟨T100, _, vx100, X100.more (by decide) (by decide), N102, (by rw [e100]; exact K103), (by rw [e100]; exact CH101), (by rw [e100]; exact f157), (by rw [e100]; exact f158), (by rw [e100]; exact f159), (by rw [e100]; exact f160), (by rw [e100]; exact f161), (by rw [e100]; exact f162), (by rw [e100]; exact f163), (by rw [e100]; exact f164), (by rw [e100]; exact f165), (by rw [e100]; exact f166), (by rw [e100]; exact f167), (by rw [e100]; exact f168), (by rw [e100]; exact f169), (by rw [e100]; exact f170), (by rw [e100]; exact f171), (by rw [e100]; exact f172), (by rw [e100]; exact f173), (by rw [e100]; exact V100), pre156⟩
        · have pre174 : ∀ t, Steps p.tables e below (T92.setTop (mkF m 248 #[.val (.long q0), .second, .val (.long q1), .second, iv p2, iv p3, iv nn, iv c0, iv c1, iv c2, iv c3, rv sg_3, rv b12, iv ss, iv ee, .unset, .unset, .unset] [])) t → Steps p.tables e below (s₁.setTop (entryFrame m #[(.long q0), (.long q1), (.int p2), (.int p3)] maxLocals)) t := fun t kt => pre97 t (by
           refine XS.icmpYes X92.here hx rfl (pc0 := 203) (pc' := 216) rfl (hb hby at_203) rfl (flt hc203_96).2.2.2 (by decide) (by decide) ?_
           refine XS.iload X92.here hx rfl (hb hby at_216) rfl ?_
           refine XS.iconst X92.here hx rfl (hb hby at_218) ?_
           refine XS.icmpYes X92.here hx rfl (pc0 := 219) (pc' := 232) rfl (hb hby at_219) rfl (flt (own_lx (by decide) hc203_96)).2.2.2 (by decide) (by decide) ?_
           refine XS.iload X92.here hx rfl (hb hby at_232) rfl ?_
           refine XS.iconst X92.here hx rfl (hb hby at_234) ?_
           refine XS.icmpYes X92.here hx rfl (pc0 := 235) (pc' := 248) rfl (hb hby at_235) rfl (flt (own_lx (by decide) hc203_96)).2.2.2 (by decide) (by decide) ?_
           exact kt)
          have f175 := (Nat.le_trans (Nat.le_trans (Nat.le_trans (Nat.le_trans (Nat.le_trans (Nat.le_trans (Nat.le_trans (Nat.le_trans (Nat.le_trans (Nat.le_trans f11 E12.1) (Keep.of_wr W21).1) (Keep.of_wr W27).1) (Keep.of_wr W33).1) (Keep.of_wr W39).1) (Keep.of_wr W45).1) (Keep.of_wr W51).1) (Keep.of_wr W57).1) (Keep.of_wr W63).1) (Keep.of_wr W92).1)
          have f176 := (((((((((((own_staKeep P_S_String_COMPACT_STRINGS K3 ns0).ext E12).wr W21).wr W27).wr W33).wr W39).wr W45).wr W51).wr W57).wr W63).wr W92)
          have f177 := (((((((((((own_staKeep P_S_Preconditions_SIOOBE_FORMATTER K3 ns0).ext E12).wr W21).wr W27).wr W33).wr W39).wr W45).wr W51).wr W57).wr W63).wr W92)
          have f178 := (((((((((((own_staKeep P_S_US_ASCII_INSTANCE K3 ns0).ext E12).wr W21).wr W27).wr W33).wr W39).wr W45).wr W51).wr W57).wr W63).wr W92)
          have f179 := (((((((((((own_staKeep P_S_UTF_8_INSTANCE K3 ns0).ext E12).wr W21).wr W27).wr W33).wr W39).wr W45).wr W51).wr W57).wr W63).wr W92)
          have f180 := (((((((((((own_staKeep P_S_ISO_8859_1_INSTANCE K3 ns0).ext E12).wr W21).wr W27).wr W33).wr W39).wr W45).wr W51).wr W57).wr W63).wr W92)
          have f181 := (((((((((((own_staKeep P_S_StandardCharsets_US_ASCII K3 ns0).ext E12).wr W21).wr W27).wr W33).wr W39).wr W45).wr W51).wr W57).wr W63).wr W92)
          have f182 := (((((((((((own_staKeep P_S_Name_KIND K3 ns0).ext E12).wr W21).wr W27).wr W33).wr W39).wr W45).wr W51).wr W57).wr W63).wr W92)
          have f183 := ((((((((((f13.ext E12).other W21 ne14).other W27 ne14).other W33 ne14).other W39 ne14).other W45 ne14).other W51 ne14).other W57 ne14).other W63 ne14).other W92 ne14)
          have f184 := (Nat.le_trans (Nat.le_trans (Nat.le_trans (Nat.le_trans (Nat.le_trans (Nat.le_trans (Nat.le_trans (Nat.le_trans (Nat.le_trans (Nat.le_trans (Nat.le_refl _) E12.1) (Keep.of_wr W21).1) (Keep.of_wr W27).1) (Keep.of_wr W33).1) (Keep.of_wr W39).1) (Keep.of_wr W45).1) (Keep.of_wr W51).1) (Keep.of_wr W57).1) (Keep.of_wr W63).1) (Keep.of_wr W92).1)
          have f185 := ((((((((((f4.ext E12).wr W21).wr W27).wr W33).wr W39).wr W45).wr W51).wr W57).wr W63).wr W92)
          have f186 := ((((((((((f5.ext E12).other W21 (Or.inl ne15)).other W27 (Or.inl ne15)).other W33 (Or.inl ne15)).other W39 (Or.inl ne15)).other W45 (Or.inl ne15)).other W51 (Or.inl ne15)).other W57 (Or.inl ne15)).other W63 (Or.inl ne15)).other W92 (Or.inl ne15))
          have f187 := ((((((((((f6.ext E12).other W21 (Or.inl ne15)).other W27 (Or.inl ne15)).other W33 (Or.inl ne15)).other W39 (Or.inl ne15)).other W45 (Or.inl ne15)).other W51 (Or.inl ne15)).other W57 (Or.inl ne15)).other W63 (Or.inl ne15)).other W92 (Or.inl ne15))
          have f188 := ((((((((((f7.ext E12).wr W21).wr W27).wr W33).wr W39).wr W45).wr W51).wr W57).wr W63).wr W92)
          have f189 := ((((((((((f8.ext E12).other W21 ne16).other W27 ne16).other W33 ne16).other W39 ne16).other W45 ne16).other W51 ne16).other W57 ne16).other W63 ne16).other W92 ne16)
          have f190 : Safe Z own_EL T3.vm h92 b12 := (Safe.wr W92 f90 CH64.1 f90)
          have f191 := (((((((((Q12.wr W21).wr W27).wr W33).wr W39).wr W45).wr W51).wr W57).wr W63).wr W92)
          exact ⟨T92, _, vx92, X92.more (by decide) (by decide), N94, (by rw [e92]; exact K95), (by rw [e92]; exact CH93), (by rw [e92]; exact f175), (by rw [e92]; exact f176), (by rw [e92]; exact f177), (by rw [e92]; exact f178), (by rw [e92]; exact f179), (by rw [e92]; exact f180), (by rw [e92]; exact f181), (by rw [e92]; exact f182), (by rw [e92]; exact f183), (by rw [e92]; exact f184), (by rw [e92]; exact f185), (by rw [e92]; exact f186), (by rw [e92]; exact f187), (by rw [e92]; exact f188), (by rw [e92]; exact f189), (by rw [e92]; exact f190), (by rw [e92]; exact f191), (by rw [e92]; exact V92), pre174⟩
      · have pre192 : ∀ t, Steps p.tables e below (T63.setTop (mkF m 248 #[.val (.long q0), .second, .val (.long q1), .second, iv p2, iv p3, iv nn, iv c0, iv c1, iv c2, iv c3, rv sg_3, rv b12, iv ss, iv ee, .unset, .unset, .unset] [])) t → Steps p.tables e below (s₁.setTop (entryFrame m #[(.long q0), (.long q1), (.int p2), (.int p3)] maxLocals)) t := fun t kt => pre89 t (by
         refine XS.ifYes X63.here hx rfl (pc0 := 189) (pc' := 200) rfl (hb hby at_189) rfl ((if0 _ _).trans (flt hc189_88).2.2.2) (by decide) (by decide) ?_
         refine XS.iload X63.here hx rfl (hb hby at_200) rfl ?_
         refine XS.iconst X63.here hx rfl (hb hby at_202) ?_
         refine XS.icmpYes X63.here hx rfl (pc0 := 203) (pc' := 216) rfl (hb hby at_203) rfl (flt (own_lx (by decide) hc189_88)).2.2.2 (by decide) (by decide) ?_
         refine XS.iload X63.here hx rfl (hb hby at_216) rfl ?_
         refine XS.iconst X63.here hx rfl (hb hby at_218) ?_
         refine XS.icmpYes X63.here hx rfl (pc0 := 219) (pc' := 232) rfl (hb hby at_219) rfl (flt (own_lx (by decide) hc189_88)).2.2.2 (by decide) (by decide) ?_
         refine XS.iload X63.here hx rfl (hb hby at_232) rfl ?_
         refine XS.iconst X63.here hx rfl (hb hby at_234) ?_
         refine XS.icmpYes X63.here hx rfl (pc0 := 235) (pc' := 248) rfl (hb hby at_235) rfl (flt (own_lx (by decide) hc189_88)).2.2.2 (by decide) (by decide) ?_
         exact kt)
        have f193 := (Nat.le_trans (Nat.le_trans (Nat.le_trans (Nat.le_trans (Nat.le_trans (Nat.le_trans (Nat.le_trans (Nat.le_trans (Nat.le_trans f11 E12.1) (Keep.of_wr W21).1) (Keep.of_wr W27).1) (Keep.of_wr W33).1) (Keep.of_wr W39).1) (Keep.of_wr W45).1) (Keep.of_wr W51).1) (Keep.of_wr W57).1) (Keep.of_wr W63).1)
        have f194 := ((((((((((own_staKeep P_S_String_COMPACT_STRINGS K3 ns0).ext E12).wr W21).wr W27).wr W33).wr W39).wr W45).wr W51).wr W57).wr W63)
        have f195 := ((((((((((own_staKeep P_S_Preconditions_SIOOBE_FORMATTER K3 ns0).ext E12).wr W21).wr W27).wr W33).wr W39).wr W45).wr W51).wr W57).wr W63)
        have f196 := ((((((((((own_staKeep P_S_US_ASCII_INSTANCE K3 ns0).ext E12).wr W21).wr W27).wr W33).wr W39).wr W45).wr W51).wr W57).wr W63)
        have f197 := ((((((((((own_staKeep P_S_UTF_8_INSTANCE K3 ns0).ext E12).wr W21).wr W27).wr W33).wr W39).wr W45).wr W51).wr W57).wr W63)
        have f198 := ((((((((((own_staKeep P_S_ISO_8859_1_INSTANCE K3 ns0).ext E12).wr W21).wr W27).wr W33).wr W39).wr W45).wr W51).wr W57).wr W63)
        have f199 := ((((((((((own_staKeep P_S_StandardCharsets_US_ASCII K3 ns0).ext E12).wr W21).wr W27).wr W33).wr W39).wr W45).wr W51).wr W57).wr W63)
        have f200 := ((((((((((own_staKeep P_S_Name_KIND K3 ns0).ext E12).wr W21).wr W27).wr W33).wr W39).wr W45).wr W51).wr W57).wr W63)
        have f201 := (((((((((f13.ext E12).other W21 ne14).other W27 ne14).other W33 ne14).other W39 ne14).other W45 ne14).other W51 ne14).other W57 ne14).other W63 ne14)
        have f202 := (Nat.le_trans (Nat.le_trans (Nat.le_trans (Nat.le_trans (Nat.le_trans (Nat.le_trans (Nat.le_trans (Nat.le_trans (Nat.le_trans (Nat.le_refl _) E12.1) (Keep.of_wr W21).1) (Keep.of_wr W27).1) (Keep.of_wr W33).1) (Keep.of_wr W39).1) (Keep.of_wr W45).1) (Keep.of_wr W51).1) (Keep.of_wr W57).1) (Keep.of_wr W63).1)
        have f203 := (((((((((f4.ext E12).wr W21).wr W27).wr W33).wr W39).wr W45).wr W51).wr W57).wr W63)
        have f204 := (((((((((f5.ext E12).other W21 (Or.inl ne15)).other W27 (Or.inl ne15)).other W33 (Or.inl ne15)).other W39 (Or.inl ne15)).other W45 (Or.inl ne15)).other W51 (Or.inl ne15)).other W57 (Or.inl ne15)).other W63 (Or.inl ne15))
        have f205 := (((((((((f6.ext E12).other W21 (Or.inl ne15)).other W27 (Or.inl ne15)).other W33 (Or.inl ne15)).other W39 (Or.inl ne15)).other W45 (Or.inl ne15)).other W51 (Or.inl ne15)).other W57 (Or.inl ne15)).other W63 (Or.inl ne15))
        have f206 := (((((((((f7.ext E12).wr W21).wr W27).wr W33).wr W39).wr W45).wr W51).wr W57).wr W63)
        have f207 := (((((((((f8.ext E12).other W21 ne16).other W27 ne16).other W33 ne16).other W39 ne16).other W45 ne16).other W51 ne16).other W57 ne16).other W63 ne16)
        have f208 : Safe Z own_EL T3.vm h63 b12 := (Safe.wr W63 f61 CH58.1 f61)
        have f209 := ((((((((Q12.wr W21).wr W27).wr W33).wr W39).wr W45).wr W51).wr W57).wr W63)
        exact ⟨T63, _, vx63, X63.more (by decide) (by decide), N65, (by rw [e63]; exact K66), (by rw [e63]; exact CH64), (by rw [e63]; exact f193), (by rw [e63]; exact f194), (by rw [e63]; exact f195), (by rw [e63]; exact f196), (by rw [e63]; exact f197), (by rw [e63]; exact f198), (by rw [e63]; exact f199), (by rw [e63]; exact f200), (by rw [e63]; exact f201), (by rw [e63]; exact f202), (by rw [e63]; exact f203), (by rw [e63]; exact f204), (by rw [e63]; exact f205), (by rw [e63]; exact f206), (by rw [e63]; exact f207), (by rw [e63]; exact f208), (by rw [e63]; exact f209), (by rw [e63]; exact V63), pre192⟩
  obtain ⟨T210, L210, vs210_b12, X210, N210, K210, CH210, f211, f212, f213, f214, f215, f216, f217, f218, f219, f220, f221, f222, f223, f224, f225, f226, f227, f228, pre210⟩ := Mg210
  have pre229 : ∀ t, Steps p.tables e below (T210.setTop (mkF m 255 #[.val (.long q0), .second, .val (.long q1), .second, iv p2, iv p3, iv nn, iv c0, iv c1, iv c2, iv c3, rv sg_3, rv b12, iv ss, iv ee, .unset, .unset, .unset] [(.int (((p2.toUInt32 >>> ((6 : Int32) &&& 31).toUInt32).toInt32) &&& (1 : Int32)))])) t → Steps p.tables e below (s₁.setTop (entryFrame m #[(.long q0), (.long q1), (.int p2), (.int p3)] maxLocals)) t := fun t kt => pre210 t (by
   refine XS.iload X210.here hx rfl (hb hby at_248) rfl ?_
   show Steps _ _ _ (T210.setTop (mkF m 250 #[.val (.long q0), .second, .val (.long q1), .second, iv p2, iv p3, iv nn, iv c0, iv c1, iv c2, iv c3, rv sg_3, rv b12, iv ss, iv ee, .unset, .unset, .unset] [(.int p2)])) _
   refine XS.bipush X210.here hx rfl (hb hby at_250) ?_
   refine XS.iushr X210.here hx rfl (hb hby at_252) rfl ?_
   refine XS.iconst X210.here hx rfl (hb hby at_253) ?_
   refine XS.iand X210.here hx rfl (hb hby at_254) rfl ?_
   exact kt)
  have Mg256 : ∃ (T256 : State) (L256 : List Loc) (x256_L15 : Slot) (vs256_b12 : List Value), Stand p l e room_1 (s.setVm T3.vm) m #[(.long q0), (.long q1), (.int p2), (.int p3)] below meth c T256 L256 7 20 ∧ Fr n0 L256 ∧ Keep h0 T256.heap [] ∧ CHr Z own_EL s.vm h0 T3.vm T256.heap ∧ n0 ≤ T256.heap.size ∧ Sta Z T256.heap "java/lang/String" "COMPACT_STRINGS" "Z" (.int zC) ∧ Sta Z T256.heap "jdk/internal/util/Preconditions" "SIOOBE_FORMATTER" "Ljava/util/function/BiFunction;" fv ∧ Sta Z T256.heap "sun/nio/cs/US_ASCII" "INSTANCE" "Lsun/nio/cs/US_ASCII;" (.ref ua) ∧ Sta Z T256.heap "sun/nio/cs/UTF_8" "INSTANCE" "Lsun/nio/cs/UTF_8;" (.ref a8) ∧ Sta Z T256.heap "sun/nio/cs/ISO_8859_1" "INSTANCE" "Lsun/nio/cs/ISO_8859_1;" (.ref ai) ∧ Sta Z T256.heap "java/nio/charset/StandardCharsets" "US_ASCII" "Ljava/nio/charset/Charset;" (.ref ua) ∧ Sta Z T256.heap "com/example/bundlewright/bundlewright/core/Name" "KIND" "[B" (.ref kd) ∧ Arv Z T256.heap kd kK .byte (128 : Int32) vK (.int 0) ∧ T3.heap.size ≤ T256.heap.size ∧ Exa Z T256.heap sg_3 "java/lang/String" ∧ Fld Z T256.heap sg_3 "java/lang/String" "value" "[B" (.ref t_3) ∧ Fld Z T256.heap sg_3 "java/lang/String" "coder" "B" (.int (0 : Int32)) ∧ Exa Z T256.heap t_3 "[B" ∧ Arv Z T256.heap t_3 kt_3 .byte nn (own_nm nn c0 c1 c2 c3) (.int 0) ∧ Safe Z own_EL T3.vm T256.heap b12 ∧ Exa Z T256.heap b12 "[B" ∧ Arv Z T256.heap b12 k12 .byte (8 : Int32) vs256_b12 (.int 0) ∧ (x256_L15 = .unset ∨ ∃ v_, x256_L15 = iv v_) ∧ (∀ t, Steps p.tables e below (T256.setTop (mkF m 290 #[.val (.long q0), .second, .val (.long q1), .second, iv p2, iv p3, iv nn, iv c0, iv c1, iv c2, iv c3, rv sg_3, rv b12, iv ss, iv ee, x256_L15, .unset, .unset] [])) t → Steps p.tables e below (s₁.setTop (entryFrame m #[(.long q0), (.long q1), (.int p2), (.int p3)] maxLocals)) t) := by
    by_cases hc255_230 : (((p2.toUInt32 >>> ((6 : Int32) &&& 31).toUInt32).toInt32) &&& (1 : Int32)) = (0 : Int32)
    · have pre231 : ∀ t, Steps p.tables e below (T210.setTop (mkF m 290 #[.val (.long q0), .second, .val (.long q1), .second, iv p2, iv p3, iv nn, iv c0, iv c1, iv c2, iv c3, rv sg_3, rv b12, iv ss, iv ee, .unset, .unset, .unset] [])) t → Steps p.tables e below (s₁.setTop (entryFrame m #[(.long q0), (.long q1), (.int p2), (.int p3)] maxLocals)) t := fun t kt => pre229 t (by
       refine XS.ifYes X210.here hx rfl (pc0 := 255) (pc' := 290) rfl (hb hby at_255) rfl ((if0 _ _).trans (teq hc255_230).1) (by decide) (by decide) ?_
       exact kt)
      exact ⟨T210, _, (.unset), vs210_b12, X210.more (by decide) (by decide), N210, K210, CH210, f211, f212, f213, f214, f215, f216, f217, f218, f219, f220, f221, f222, f223, f224, f225, f226, f227, f228, (Or.inl rfl), pre231⟩
    · obtain ⟨cl232, Ar232, qq232, S232, N232_, H232, G232⟩ := id f228
      have hin232 : ¬ ((ss + (((p2.toUInt32 >>> ((7 : Int32) &&& 31).toUInt32).toInt32) &&& (3 : Int32))) < 0 ∨ cl232.slots.size ≤ ((ss + (((p2.toUInt32 >>> ((7 : Int32) &&& 31).toUInt32).toInt32) &&& (3 : Int32)))).toNatClampNeg) := inb_of S232 (own_ib hss (own_m3 _))
      have hat232 : cl232.slots[((ss + (((p2.toUInt32 >>> ((7 : Int32) &&& 31).toUInt32).toInt32) &&& (3 : Int32)))).toNatClampNeg]? = some (.int (own_at vs210_b12 (ss + (((p2.toUInt32 >>> ((7 : Int32) &&& 31).toUInt32).toInt32) &&& (3 : Int32))))) := own_atv H232 G232 hin232
      obtain ⟨cl233, Ar233, qq233, S233, N233_, H233, G233⟩ := id f228
      have hin233 : ¬ ((ss + (((p2.toUInt32 >>> ((7 : Int32) &&& 31).toUInt32).toInt32) &&& (3 : Int32))) < 0 ∨ cl233.slots.size ≤ ((ss + (((p2.toUInt32 >>> ((7 : Int32) &&& 31).toUInt32).toInt32) &&& (3 : Int32)))).toNatClampNeg) := inb_of S233 (own_ib hss (own_m3 _))
      obtain ⟨T234, h234, X234, e234, W234, st234⟩ := stB X210 hx hZ3 rfl Ar233 (j := (ss + (((p2.toUInt32 >>> ((7 : Int32) &&& 31).toUInt32).toInt32) &&& (3 : Int32)))) hin233 (g := (mkF m 289 #[.val (.long q0), .second, .val (.long q1), .second, iv p2, iv p3, iv nn, iv c0, iv c1, iv c2, iv c3, rv sg_3, rv b12, iv ss, iv ee, iv (((p2.toUInt32 >>> ((7 : Int32) &&& 31).toUInt32).toInt32) &&& (3 : Int32)), .unset, .unset] [(.int (((own_at vs210_b12 (ss + (((p2.toUInt32 >>> ((7 : Int32) &&& 31).toUInt32).toInt32) &&& (3 : Int32)))) ^^^ (((1 : Int32) <<< ((((p2.toUInt32 >>> ((9 : Int32) &&& 31).toUInt32).toInt32) &&& (7 : Int32)) &&& 31)).toInt8.toInt32)).toInt8.toInt32)), (.int (ss + (((p2.toUInt32 >>> ((7 : Int32) &&& 31).toUInt32).toInt32) &&& (3 : Int32)))), (.ref b12)])) rfl rfl (hb hby at_289)
      have CH235 : CHr Z own_EL s.vm h0 T3.vm h234 := CH210.trans (CHr.wr W234 f226 CH210.1)
      obtain ⟨vx234, V234⟩ := own_setG f228 W234 (fits_nar_byte _)
      have N236 := Fr.snoc X234 N210 o12
      have K237 : Keep h0 h234 [] := K210.wr W234 (Or.inr z12)
      have pre238 : ∀ t, Steps p.tables e below (T234.setTop (mkF m 290 #[.val (.long q0), .second, .val (.long q1), .second, iv p2, iv p3, iv nn, iv c0, iv c1, iv c2, iv c3, rv sg_3, rv b12, iv ss, iv ee, iv (((p2.toUInt32 >>> ((7 : Int32) &&& 31).toUInt32).toInt32) &&& (3 : Int32)), .unset, .unset] [])) t → Steps p.tables e below (s₁.setTop (entryFrame m #[(.long q0), (.long q1), (.int p2), (.int p3)] maxLocals)) t := fun t kt => pre229 t (by
       refine XS.ifNo X210.here hx rfl (hb hby at_255) rfl ((if0 _ _).trans (feq hc255_230).1) ?_
       refine XS.iload X210.here hx rfl (hb hby at_258) rfl ?_
       refine XS.bipush X210.here hx rfl (hb hby at_260) ?_
       refine XS.iushr X210.here hx rfl (hb hby at_262) rfl ?_
       refine XS.iconst X210.here hx rfl (hb hby at_263) ?_
       refine XS.iand X210.here hx rfl (hb hby at_264) rfl ?_
       refine XS.istore X210.here hx rfl (hb hby at_265) rfl (l' := #[.val (.long q0), .second, .val (.long q1), .second, iv p2, iv p3, iv nn, iv c0, iv c1, iv c2, iv c3, rv sg_3, rv b12, iv ss, iv ee, iv (((p2.toUInt32 >>> ((7 : Int32) &&& 31).toUInt32).toInt32) &&& (3 : Int32)), .unset, .unset]) rfl ?_
       refine XS.aload X210.here hx rfl (hb hby at_267) rfl rfl ?_
       refine XS.iload X210.here hx rfl (hb hby at_269) rfl ?_
       refine XS.iload X210.here hx rfl (hb hby at_271) rfl ?_
       refine XS.iadd X210.here hx rfl (hb hby at_273) rfl ?_
       show Steps _ _ _ (T210.setTop (mkF m 274 #[.val (.long q0), .second, .val (.long q1), .second, iv p2, iv p3, iv nn, iv c0, iv c1, iv c2, iv c3, rv sg_3, rv b12, iv ss, iv ee, iv (((p2.toUInt32 >>> ((7 : Int32) &&& 31).toUInt32).toInt32) &&& (3 : Int32)), .unset, .unset] [(.int (ss + (((p2.toUInt32 >>> ((7 : Int32) &&& 31).toUInt32).toInt32) &&& (3 : Int32)))), (.ref b12)])) _
       jvm_step X210.here [X210.here.top, hx, (hb hby at_274), Value.category]
       refine X210.baloadBytes hx (j := (ss + (((p2.toUInt32 >>> ((7 : Int32) &&& 31).toUInt32).toInt32) &&& (3 : Int32)))) (v := (.int (own_at vs210_b12 (ss + (((p2.toUInt32 >>> ((7 : Int32) &&& 31).toUInt32).toInt32) &&& (3 : Int32)))))) Ar232.1 (State.isArrayOf_alike hZ3.alike Ar232.2.1) Ar232.2.2 hin232 hat232 (g := (mkF m 275 #[.val (.long q0), .second, .val (.long q1), .second, iv p2, iv p3, iv nn, iv c0, iv c1, iv c2, iv c3, rv sg_3, rv b12, iv ss, iv ee, iv (((p2.toUInt32 >>> ((7 : Int32) &&& 31).toUInt32).toInt32) &&& (3 : Int32)), .unset, .unset] [(.int (ss + (((p2.toUInt32 >>> ((7 : Int32) &&& 31).toUInt32).toInt32) &&& (3 : Int32)))), (.ref b12), (.int (ss + (((p2.toUInt32 >>> ((7 : Int32) &&& 31).toUInt32).toInt32) &&& (3 : Int32)))), (.ref b12)])) rfl rfl (hb hby at_275) _ ?_
       refine XS.iconst X210.here hx rfl (hb hby at_276) ?_
       refine XS.iload X210.here hx rfl (hb hby at_277) rfl ?_
       refine XS.bipush X210.here hx rfl (hb hby at_279) ?_
       refine XS.iushr X210.here hx rfl (hb hby at_281) rfl ?_
       refine XS.bipush X210.here hx rfl (hb hby at_282) ?_
       refine XS.iand X210.here hx rfl (hb hby at_284) rfl ?_
       show Steps _ _ _ (T210.setTop (mkF m 285 #[.val (.long q0), .second, .val (.long q1), .second, iv p2, iv p3, iv nn, iv c0, iv c1, iv c2, iv c3, rv sg_3, rv b12, iv ss, iv ee, iv (((p2.toUInt32 >>> ((7 : Int32) &&& 31).toUInt32).toInt32) &&& (3 : Int32)), .unset, .unset] [(.int (((p2.toUInt32 >>> ((9 : Int32) &&& 31).toUInt32).toInt32) &&& (7 : Int32))), (.int (1 : Int32)), (.int (own_at vs210_b12 (ss + (((p2.toUInt32 >>> ((7 : Int32) &&& 31).toUInt32).toInt32) &&& (3 : Int32))))), (.int (ss + (((p2.toUInt32 >>> ((7 : Int32) &&& 31).toUInt32).toInt32) &&& (3 : Int32)))), (.ref b12)])) _
       refine XS.ishl X210.here hx rfl (hb hby at_285) rfl ?_
       refine XS.i2b X210.here hx rfl (hb hby at_286) rfl ?_
       refine XS.ixor X210.here hx rfl (hb hby at_287) rfl ?_
       refine XS.i2b X210.here hx rfl (hb hby at_288) rfl ?_
       refine st234 _ ?_
       exact kt)
      have f239 := (Nat.le_trans f211 (Keep.of_wr W234).1)
      have f240 := (f212.wr W234)
      have f241 := (f213.wr W234)
      have f242 := (f214.wr W234)
      have f243 := (f215.wr W234)
      have f244 := (f216.wr W234)
      have f245 := (f217.wr W234)
      have f246 := (f218.wr W234)
      have f247 := (f219.other W234 ne14)
      have f248 := (Nat.le_trans f220 (Keep.of_wr W234).1)
      have f249 := (f221.wr W234)
      have f250 := (f222.other W234 (Or.inl ne15))
      have f251 := (f223.other W234 (Or.inl ne15))
      have f252 := (f224.wr W234)
      have f253 := (f225.other W234 ne16)
      have f254 : Safe Z own_EL T3.vm h234 b12 := (Safe.wr W234 f226 CH210.1 f226)
      have f255 := (f227.wr W234)
      exact ⟨T234, _, (iv (((p2.toUInt32 >>> ((7 : Int32) &&& 31).toUInt32).toInt32) &&& (3 : Int32))), vx234, X234.more (by decide) (by decide), N236, (by rw [e234]; exact K237), (by rw [e234]; exact CH235), (by rw [e234]; exact f239), (by rw [e234]; exact f240), (by rw [e234]; exact f241), (by rw [e234]; exact f242), (by rw [e234]; exact f243), (by rw [e234]; exact f244), (by rw [e234]; exact f245), (by rw [e234]; exact f246), (by rw [e234]; exact f247), (by rw [e234]; exact f248), (by rw [e234]; exact f249), (by rw [e234]; exact f250), (by rw [e234]; exact f251), (by rw [e234]; exact f252), (by rw [e234]; exact f253), (by rw [e234]; exact f254), (by rw [e234]; exact f255), (by rw [e234]; exact V234), (Or.inr ⟨_, rfl⟩), pre238⟩
  obtain ⟨T256, L256, x256_L15, vs256_b12, X256, N256, K256, CH256, f257, f258, f259, f260, f261, f262, f263, f264, f265, f266, f267, f268, f269, f270, f271, f272, f273, f274, mp_x256_L15, pre256⟩ := Mg256
  have Mg307 : ∃ (T307 : State) (L307 : List Loc) (x307_S0 : Int32), Stand p l e room_1 (s.setVm T3.vm) m #[(.long q0), (.long q1), (.int p2), (.int p3)] below meth c T307 L307 7 20 ∧ Fr n0 L307 ∧ T307.heap = T256.heap ∧ x307_S0 = (own_is ss ee nn (own_nm nn c0 c1 c2 c3) vs256_b12) ∧ (∀ t, Steps p.tables e below (T307.setTop (mkF m 379 #[.val (.long q0), .second, .val (.long q1), .second, iv p2, iv p3, iv nn, iv c0, iv c1, iv c2, iv c3, rv sg_3, rv b12, iv ss, iv ee, x256_L15, .unset, .unset] [(.int x307_S0)])) t → Steps p.tables e below (s₁.setTop (entryFrame m #[(.long q0), (.long q1), (.int p2), (.int p3)] maxLocals)) t) := by
    have pre276 : ∀ t, Steps p.tables e below (T256.setTop (mkF m 297 #[.val (.long q0), .second, .val (.long q1), .second, iv p2, iv p3, iv nn, iv c0, iv c1, iv c2, iv c3, rv sg_3, rv b12, iv ss, iv ee, x256_L15, .unset, .unset] [(.int nn), (.int (ee - ss))])) t → Steps p.tables e below (s₁.setTop (entryFrame m #[(.long q0), (.long q1), (.int p2), (.int p3)] maxLocals)) t := fun t kt => pre256 t (by
     refine XS.iload X256.here hx rfl (hb hby at_290) rfl ?_
     refine XS.iload X256.here hx rfl (hb hby at_292) rfl ?_
     refine XS.isub X256.here hx rfl (hb hby at_294) rfl ?_
     refine XS.iload X256.here hx rfl (hb hby at_295) rfl ?_
     exact kt)
    by_cases hc297_275 : (ee - ss) = nn
    · have pre278 : ∀ t, Steps p.tables e below (T256.setTop (mkF m 303 #[.val (.long q0), .second, .val (.long q1), .second, iv p2, iv p3, iv nn, iv c0, iv c1, iv c2, iv c3, rv sg_3, rv b12, iv ss, iv ee, x256_L15, .unset, .unset] [(.int (1 : Int32)), (.int nn)])) t → Steps p.tables e below (s₁.setTop (entryFrame m #[(.long q0), (.long q1), (.int p2), (.int p3)] maxLocals)) t := fun t kt => pre276 t (by
       refine XS.icmpNo X256.here hx rfl (hb hby at_297) rfl (teq hc297_275).2 ?_
       refine XS.iload X256.here hx rfl (hb hby at_300) rfl ?_
       refine XS.iconst X256.here hx rfl (hb hby at_302) ?_
       exact kt)
      by_cases hc303_277 : nn < (1 : Int32)
      · have pre279 : ∀ t, Steps p.tables e below (T256.setTop (mkF m 379 #[.val (.long q0), .second, .val (.long q1), .second, iv p2, iv p3, iv nn, iv c0, iv c1, iv c2, iv c3, rv sg_3, rv b12, iv ss, iv ee, x256_L15, .unset, .unset] [(.int (1 : Int32))])) t → Steps p.tables e below (s₁.setTop (entryFrame m #[(.long q0), (.long q1), (.int p2), (.int p3)] maxLocals)) t := fun t kt => pre278 t (by
         refine XS.icmpYes X256.here hx rfl (pc0 := 303) (pc' := 317) rfl (hb hby at_303) rfl (tlt hc303_277).1 (by decide) (by decide) ?_
         refine XS.iload X256.here hx rfl (hb hby at_317) rfl ?_
         refine XS.iconst X256.here hx rfl (hb hby at_319) ?_
         refine XS.icmpYes X256.here hx rfl (pc0 := 320) (pc' := 336) rfl (hb hby at_320) rfl (tlt (own_ly (by decide) hc303_277)).1 (by decide) (by decide) ?_
         refine XS.iload X256.here hx rfl (hb hby at_336) rfl ?_
         refine XS.iconst X256.here hx rfl (hb hby at_338) ?_
         refine XS.icmpYes X256.here hx rfl (pc0 := 339) (pc' := 355) rfl (hb hby at_339) rfl (tlt (own_ly (by decide) hc303_277)).1 (by decide) (by decide) ?_
         refine XS.iload X256.here hx rfl (hb hby at_355) rfl ?_
         refine XS.iconst X256.here hx rfl (hb hby at_357) ?_
         refine XS.icmpYes X256.here hx rfl (pc0 := 358) (pc' := 374) rfl (hb hby at_358) rfl (tlt (own_ly (by decide) hc303_277)).1 (by decide) (by decide) ?_
         refine XS.iconst X256.here hx rfl (hb hby at_374) ?_
         refine XS.goto X256.here hx rfl (pc0 := 375) (pc' := 379) rfl (hb hby at_375) (by decide) (by decide) ?_
         exact kt)
        exact ⟨T256, _, (1 : Int32), X256.more (by decide) (by decide), N256, rfl, (by unfold own_is; rw [if_pos hc297_275, if_neg (own_gn0 hc303_277)]), pre279⟩
      · obtain ⟨cl280, Ar280, qq280, S280, N280_, H280, G280⟩ := id f274
        have hin280 : ¬ (ss < 0 ∨ cl280.slots.size ≤ (ss).toNatClampNeg) := inb_of S280 (own_ia hss)
        have hat280 : cl280.slots[(ss).toNatClampNeg]? = some (.int (own_at vs256_b12 ss)) := own_atv H280 G280 hin280
        have pre282 : ∀ t, Steps p.tables e below (T256.setTop (mkF m 314 #[.val (.long q0), .second, .val (.long q1), .second, iv p2, iv p3, iv nn, iv c0, iv c1, iv c2, iv c3, rv sg_3, rv b12, iv ss, iv ee, x256_L15, .unset, .unset] [(.int c0), (.int (own_at vs256_b12 ss))])) t → Steps p.tables e below (s₁.setTop (entryFrame m #[(.long q0), (.long q1), (.int p2), (.int p3)] maxLocals)) t := fun t kt => pre278 t (by
         show Steps _ _ _ (T256.setTop (mkF m 303 #[.val (.long q0), .second, .val (.long q1), .second, iv p2, iv p3, iv nn, iv c0, iv c1, iv c2, iv c3, rv sg_3, rv b12, iv ss, iv ee, x256_L15, .unset, .unset] [(.int (1 : Int32)), (.int nn)])) _
         refine XS.icmpNo X256.here hx rfl (hb hby at_303) rfl (flt hc303_277).1 ?_
         refine XS.aload X256.here hx rfl (hb hby at_306) rfl rfl ?_
         refine XS.iload X256.here hx rfl (hb hby at_308) rfl ?_
         refine X256.baloadBytes hx (j := ss) (v := (.int (own_at vs256_b12 ss))) Ar280.1 (State.isArrayOf_alike hZ3.alike Ar280.2.1) Ar280.2.2 hin280 hat280 (g := (mkF m 310 #[.val (.long q0), .second, .val (.long q1), .second, iv p2, iv p3, iv nn, iv c0, iv c1, iv c2, iv c3, rv sg_3, rv b12, iv ss, iv ee, x256_L15, .unset, .unset] [(.int ss), (.ref b12)])) rfl rfl (hb hby at_310) _ ?_
         refine XS.iload X256.here hx rfl (hb hby at_311) rfl ?_
         refine XS.i2b X256.here hx rfl (hb hby at_313) rfl ?_
         show Steps _ _ _ (T256.setTop (mkF m 314 #[.val (.long q0), .second, .val (.long q1), .second, iv p2, iv p3, iv nn, iv c0, iv c1, iv c2, iv c3, rv sg_3, rv b12, iv ss, iv ee, x256_L15, .unset, .unset] [(.int (c0.toInt8.toInt32)), (.int (own_at vs256_b12 ss))])) _
         rw [own_n1 hc0]
         exact kt)
        by_cases hc314_281 : (own_at vs256_b12 ss) = c0
        · have pre284 : ∀ t, Steps p.tables e below (T256.setTop (mkF m 320 #[.val (.long q0), .second, .val (.long q1), .second, iv p2, iv p3, iv nn, iv c0, iv c1, iv c2, iv c3, rv sg_3, rv b12, iv ss, iv ee, x256_L15, .unset, .unset] [(.int (2 : Int32)), (.int nn)])) t → Steps p.tables e below (s₁.setTop (entryFrame m #[(.long q0), (.long q1), (.int p2), (.int p3)] maxLocals)) t := fun t kt => pre282 t (by
           refine XS.icmpNo X256.here hx rfl (hb hby at_314) rfl (teq hc314_281).2 ?_
           refine XS.iload X256.here hx rfl (hb hby at_317) rfl ?_
           refine XS.iconst X256.here hx rfl (hb hby at_319) ?_
           exact kt)
          by_cases hc320_283 : nn < (2 : Int32)
          · have pre285 : ∀ t, Steps p.tables e below (T256.setTop (mkF m 379 #[.val (.long q0), .second, .val (.long q1), .second, iv p2, iv p3, iv nn, iv c0, iv c1, iv c2, iv c3, rv sg_3, rv b12, iv ss, iv ee, x256_L15, .unset, .unset] [(.int (1 : Int32))])) t → Steps p.tables e below (s₁.setTop (entryFrame m #[(.long q0), (.long q1), (.int p2), (.int p3)] maxLocals)) t := fun t kt => pre284 t (by
             refine XS.icmpYes X256.here hx rfl (pc0 := 320) (pc' := 336) rfl (hb hby at_320) rfl (tlt hc320_283).1 (by decide) (by decide) ?_
             refine XS.iload X256.here hx rfl (hb hby at_336) rfl ?_
             refine XS.iconst X256.here hx rfl (hb hby at_338) ?_
             refine XS.icmpYes X256.here hx rfl (pc0 := 339) (pc' := 355) rfl (hb hby at_339) rfl (tlt (own_ly (by decide) hc320_283)).1 (by decide) (by decide) ?_
             refine XS.iload X256.here hx rfl (hb hby at_355) rfl ?_
             refine XS.iconst X256.here hx rfl (hb hby at_357) ?_
             refine XS.icmpYes X256.here hx rfl (pc0 := 358) (pc' := 374) rfl (hb hby at_358) rfl (tlt (own_ly (by decide) hc320_283)).1 (by decide) (by decide) ?_
             refine XS.iconst X256.here hx rfl (hb hby at_374) ?_
             refine XS.goto X256.here hx rfl (pc0 := 375) (pc' := 379) rfl (hb hby at_375) (by decide) (by decide) ?_
             exact kt)
            exact ⟨T256, _, (1 : Int32), X256.more (by decide) (by decide), N256, rfl, (by unfold own_is; rw [if_pos hc297_275, if_pos (own_gp0 hc303_277), if_pos (show (own_at vs256_b12 ss) = (own_at (own_nm nn c0 c1 c2 c3) (0 : Int32)) from hc314_281.trans (own_nma0 hnn (own_gp0 hc303_277)).symm), if_neg (own_gn1 hc320_283)]), pre285⟩
          · obtain ⟨cl286, Ar286, qq286, S286, N286_, H286, G286⟩ := id f274
            have hin286 : ¬ ((ss + (1 : Int32)) < 0 ∨ cl286.slots.size ≤ ((ss + (1 : Int32))).toNatClampNeg) := inb_of S286 (own_ib hss (by decide))
            have hat286 : cl286.slots[((ss + (1 : Int32))).toNatClampNeg]? = some (.int (own_at vs256_b12 (ss + (1 : Int32)))) := own_atv H286 G286 hin286
            have pre288 : ∀ t, Steps p.tables e below (T256.setTop (mkF m 333 #[.val (.long q0), .second, .val (.long q1), .second, iv p2, iv p3, iv nn, iv c0, iv c1, iv c2, iv c3, rv sg_3, rv b12, iv ss, iv ee, x256_L15, .unset, .unset] [(.int c1), (.int (own_at vs256_b12 (ss + (1 : Int32))))])) t → Steps p.tables e below (s₁.setTop (entryFrame m #[(.long q0), (.long q1), (.int p2), (.int p3)] maxLocals)) t := fun t kt => pre284 t (by
             refine XS.icmpNo X256.here hx rfl (hb hby at_320) rfl (flt hc320_283).1 ?_
             refine XS.aload X256.here hx rfl (hb hby at_323) rfl rfl ?_
             refine XS.iload X256.here hx rfl (hb hby at_325) rfl ?_
             refine XS.iconst X256.here hx rfl (hb hby at_327) ?_
             refine XS.iadd X256.here hx rfl (hb hby at_328) rfl ?_
             refine X256.baloadBytes hx (j := (ss + (1 : Int32))) (v := (.int (own_at vs256_b12 (ss + (1 : Int32))))) Ar286.1 (State.isArrayOf_alike hZ3.alike Ar286.2.1) Ar286.2.2 hin286 hat286 (g := (mkF m 329 #[.val (.long q0), .second, .val (.long q1), .second, iv p2, iv p3, iv nn, iv c0, iv c1, iv c2, iv c3, rv sg_3, rv b12, iv ss, iv ee, x256_L15, .unset, .unset] [(.int (ss + (1 : Int32))), (.ref b12)])) rfl rfl (hb hby at_329) _ ?_
             show Steps _ _ _ (T256.setTop (mkF m 330 #[.val (.long q0), .second, .val (.long q1), .second, iv p2, iv p3, iv nn, iv c0, iv c1, iv c2, iv c3, rv sg_3, rv b12, iv ss, iv ee, x256_L15, .unset, .unset] [(.int (own_at vs256_b12 (ss + (1 : Int32))))])) _
             refine XS.iload X256.here hx rfl (hb hby at_330) rfl ?_
             refine XS.i2b X256.here hx rfl (hb hby at_332) rfl ?_
             show Steps _ _ _ (T256.setTop (mkF m 333 #[.val (.long q0), .second, .val (.long q1), .second, iv p2, iv p3, iv nn, iv c0, iv c1, iv c2, iv c3, rv sg_3, rv b12, iv ss, iv ee, x256_L15, .unset, .unset] [(.int (c1.toInt8.toInt32)), (.int (own_at vs256_b12 (ss + (1 : Int32))))])) _
             rw [own_n1 hc1]
             exact kt)
            by_cases hc333_287 : (own_at vs256_b12 (ss + (1 : Int32))) = c1
            · have pre290 : ∀ t, Steps p.tables e below (T256.setTop (mkF m 339 #[.val (.long q0), .second, .val (.long q1), .second, iv p2, iv p3, iv nn, iv c0, iv c1, iv c2, iv c3, rv sg_3, rv b12, iv ss, iv ee, x256_L15, .unset, .unset] [(.int (3 : Int32)), (.int nn)])) t → Steps p.tables e below (s₁.setTop (entryFrame m #[(.long q0), (.long q1), (.int p2), (.int p3)] maxLocals)) t := fun t kt => pre288 t (by
               refine XS.icmpNo X256.here hx rfl (hb hby at_333) rfl (teq hc333_287).2 ?_
               refine XS.iload X256.here hx rfl (hb hby at_336) rfl ?_
               refine XS.iconst X256.here hx rfl (hb hby at_338) ?_
               exact kt)
              by_cases hc339_289 : nn < (3 : Int32)
              · have pre291 : ∀ t, Steps p.tables e below (T256.setTop (mkF m 379 #[.val (.long q0), .second, .val (.long q1), .second, iv p2, iv p3, iv nn, iv c0, iv c1, iv c2, iv c3, rv sg_3, rv b12, iv ss, iv ee, x256_L15, .unset, .unset] [(.int (1 : Int32))])) t → Steps p.tables e below (s₁.setTop (entryFrame m #[(.long q0), (.long q1), (.int p2), (.int p3)] maxLocals)) t := fun t kt => pre290 t (by
                 refine XS.icmpYes X256.here hx rfl (pc0 := 339) (pc' := 355) rfl (hb hby at_339) rfl (tlt hc339_289).1 (by decide) (by decide) ?_
                 refine XS.iload X256.here hx rfl (hb hby at_355) rfl ?_
                 refine XS.iconst X256.here hx rfl (hb hby at_357) ?_
                 refine XS.icmpYes X256.here hx rfl (pc0 := 358) (pc' := 374) rfl (hb hby at_358) rfl (tlt (own_ly (by decide) hc339_289)).1 (by decide) (by decide) ?_
                 refine XS.iconst X256.here hx rfl (hb hby at_374) ?_
                 refine XS.goto X256.here hx rfl (pc0 := 375) (pc' := 379) rfl (hb hby at_375) (by decide) (by decide) ?_
                 exact kt)
                exact ⟨T256, _, (1 : Int32), X256.more (by decide) (by decide), N256, rfl, (by unfold own_is; rw [if_pos hc297_275, if_pos (own_gp0 hc303_277), if_pos (show (own_at vs256_b12 ss) = (own_at (own_nm nn c0 c1 c2 c3) (0 : Int32)) from hc314_281.trans (own_nma0 hnn (own_gp0 hc303_277)).symm), if_pos (own_gp1 hc320_283), if_pos (show (own_at vs256_b12 (ss + (1 : Int32))) = (own_at (own_nm nn c0 c1 c2 c3) (1 : Int32)) from hc333_287.trans (own_nma1 hnn (own_gp1 hc320_283)).symm), if_neg (own_gn2 hc339_289)]), pre291⟩
              · obtain ⟨cl292, Ar292, qq292, S292, N292_, H292, G292⟩ := id f274
                have hin292 : ¬ ((ss + (2 : Int32)) < 0 ∨ cl292.slots.size ≤ ((ss + (2 : Int32))).toNatClampNeg) := inb_of S292 (own_ib hss (by decide))
                have hat292 : cl292.slots[((ss + (2 : Int32))).toNatClampNeg]? = some (.int (own_at vs256_b12 (ss + (2 : Int32)))) := own_atv H292 G292 hin292
                have pre294 : ∀ t, Steps p.tables e below (T256.setTop (mkF m 352 #[.val (.long q0), .second, .val (.long q1), .second, iv p2, iv p3, iv nn, iv c0, iv c1, iv c2, iv c3, rv sg_3, rv b12, iv ss, iv ee, x256_L15, .unset, .unset] [(.int c2), (.int (own_at vs256_b12 (ss + (2 : Int32))))])) t → Steps p.tables e below (s₁.setTop (entryFrame m #[(.long q0), (.long q1), (.int p2), (.int p3)] maxLocals)) t := fun t kt => pre290 t (by
                 refine XS.icmpNo X256.here hx rfl (hb hby at_339) rfl (flt hc339_289).1 ?_
                 refine XS.aload X256.here hx rfl (hb hby at_342) rfl rfl ?_
                 refine XS.iload X256.here hx rfl (hb hby at_344) rfl ?_
                 refine XS.iconst X256.here hx rfl (hb hby at_346) ?_
                 refine XS.iadd X256.here hx rfl (hb hby at_347) rfl ?_
                 refine X256.baloadBytes hx (j := (ss + (2 : Int32))) (v := (.int (own_at vs256_b12 (ss + (2 : Int32))))) Ar292.1 (State.isArrayOf_alike hZ3.alike Ar292.2.1) Ar292.2.2 hin292 hat292 (g := (mkF m 348 #[.val (.long q0), .second, .val (.long q1), .second, iv p2, iv p3, iv nn, iv c0, iv c1, iv c2, iv c3, rv sg_3, rv b12, iv ss, iv ee, x256_L15, .unset, .unset] [(.int (ss + (2 : Int32))), (.ref b12)])) rfl rfl (hb hby at_348) _ ?_
                 refine XS.iload X256.here hx rfl (hb hby at_349) rfl ?_
                 refine XS.i2b X256.here hx rfl (hb hby at_351) rfl ?_
                 show Steps _ _ _ (T256.setTop (mkF m 352 #[.val (.long q0), .second, .val (.long q1), .second, iv p2, iv p3, iv nn, iv c0, iv c1, iv c2, iv c3, rv sg_3, rv b12, iv ss, iv ee, x256_L15, .unset, .unset] [(.int (c2.toInt8.toInt32)), (.int (own_at vs256_b12 (ss + (2 : Int32))))])) _
                 rw [own_n1 hc2]
                 exact kt)
                by_cases hc352_293 : (own_at vs256_b12 (ss + (2 : Int32))) = c2
                · have pre296 : ∀ t, Steps p.tables e below (T256.setTop (mkF m 358 #[.val (.long q0), .second, .val (.long q1), .second, iv p2, iv p3, iv nn, iv c0, iv c1, iv c2, iv c3, rv sg_3, rv b12, iv ss, iv ee, x256_L15, .unset, .unset] [(.int (4 : Int32)), (.int nn)])) t → Steps p.tables e below (s₁.setTop (entryFrame m #[(.long q0), (.long q1), (.int p2), (.int p3)] maxLocals)) t := fun t kt => pre294 t (by
                   refine XS.icmpNo X256.here hx rfl (hb hby at_352) rfl (teq hc352_293).2 ?_
                   refine XS.iload X256.here hx rfl (hb hby at_355) rfl ?_
                   refine XS.iconst X256.here hx rfl (hb hby at_357) ?_
                   exact kt)
                  by_cases hc358_295 : nn < (4 : Int32)
                  · have pre297 : ∀ t, Steps p.tables e below (T256.setTop (mkF m 379 #[.val (.long q0), .second, .val (.long q1), .second, iv p2, iv p3, iv nn, iv c0, iv c1, iv c2, iv c3, rv sg_3, rv b12, iv ss, iv ee, x256_L15, .unset, .unset] [(.int (1 : Int32))])) t → Steps p.tables e below (s₁.setTop (entryFrame m #[(.long q0), (.long q1), (.int p2), (.int p3)] maxLocals)) t := fun t kt => pre296 t (by
                     refine XS.icmpYes X256.here hx rfl (pc0 := 358) (pc' := 374) rfl (hb hby at_358) rfl (tlt hc358_295).1 (by decide) (by decide) ?_
                     refine XS.iconst X256.here hx rfl (hb hby at_374) ?_
                     show Steps _ _ _ (T256.setTop (mkF m 375 #[.val (.long q0), .second, .val (.long q1), .second, iv p2, iv p3, iv nn, iv c0, iv c1, iv c2, iv c3, rv sg_3, rv b12, iv ss, iv ee, x256_L15, .unset, .unset] [(.int (1 : Int32))])) _
                     refine XS.goto X256.here hx rfl (pc0 := 375) (pc' := 379) rfl (hb hby at_375) (by decide) (by decide) ?_
                     exact kt)
                    exact ⟨T256, _, (1 : Int32), X256.more (by decide) (by decide), N256, rfl, (by unfold own_is; rw [if_pos hc297_275, if_pos (own_gp0 hc303_277), if_pos (show (own_at vs256_b12 ss) = (own_at (own_nm nn c0 c1 c2 c3) (0 : Int32)) from hc314_281.trans (own_nma0 hnn (own_gp0 hc303_277)).symm), if_pos (own_gp1 hc320_283), if_pos (show (own_at vs256_b12 (ss + (1 : Int32))) = (own_at (own_nm nn c0 c1 c2 c3) (1 : Int32)) from hc333_287.trans (own_nma1 hnn (own_gp1 hc320_283)).symm), if_pos (own_gp2 hc339_289), if_pos (show (own_at vs256_b12 (ss + (2 : Int32))) = (own_at (own_nm nn c0 c1 c2 c3) (2 : Int32)) from hc352_293.trans (own_nma2 hnn (own_gp2 hc339_289)).symm), if_neg (own_gn3 hc358_295)]), pre297⟩
                  · obtain ⟨cl298, Ar298, qq298, S298, N298_, H298, G298⟩ := id f274
                    have hin298 : ¬ ((ss + (3 : Int32)) < 0 ∨ cl298.slots.size ≤ ((ss + (3 : Int32))).toNatClampNeg) := inb_of S298 (own_ib hss (by decide))
                    have hat298 : cl298.slots[((ss + (3 : Int32))).toNatClampNeg]? = some (.int (own_at vs256_b12 (ss + (3 : Int32)))) := own_atv H298 G298 hin298
                    have pre300 : ∀ t, Steps p.tables e below (T256.setTop (mkF m 371 #[.val (.long q0), .second, .val (.long q1), .second, iv p2, iv p3, iv nn, iv c0, iv c1, iv c2, iv c3, rv sg_3, rv b12, iv ss, iv ee, x256_L15, .unset, .unset] [(.int c3), (.int (own_at vs256_b12 (ss + (3 : Int32))))])) t → Steps p.tables e below (s₁.setTop (entryFrame m #[(.long q0), (.long q1), (.int p2), (.int p3)] maxLocals)) t := fun t kt => pre296 t (by
                     refine XS.icmpNo X256.here hx rfl (hb hby at_358) rfl (flt hc358_295).1 ?_
                     refine XS.aload X256.here hx rfl (hb hby at_361) rfl rfl ?_
                     refine XS.iload X256.here hx rfl (hb hby at_363) rfl ?_
                     refine XS.iconst X256.here hx rfl (hb hby at_365) ?_
                     refine XS.iadd X256.here hx rfl (hb hby at_366) rfl ?_
                     refine X256.baloadBytes hx (j := (ss + (3 : Int32))) (v := (.int (own_at vs256_b12 (ss + (3 : Int32))))) Ar298.1 (State.isArrayOf_alike hZ3.alike Ar298.2.1) Ar298.2.2 hin298 hat298 (g := (mkF m 367 #[.val (.long q0), .second, .val (.long q1), .second, iv p2, iv p3, iv nn, iv c0, iv c1, iv c2, iv c3, rv sg_3, rv b12, iv ss, iv ee, x256_L15, .unset, .unset] [(.int (ss + (3 : Int32))), (.ref b12)])) rfl rfl (hb hby at_367) _ ?_
                     refine XS.iload X256.here hx rfl (hb hby at_368) rfl ?_
                     refine XS.i2b X256.here hx rfl (hb hby at_370) rfl ?_
                     show Steps _ _ _ (T256.setTop (mkF m 371 #[.val (.long q0), .second, .val (.long q1), .second, iv p2, iv p3, iv nn, iv c0, iv c1, iv c2, iv c3, rv sg_3, rv b12, iv ss, iv ee, x256_L15, .unset, .unset] [(.int (c3.toInt8.toInt32)), (.int (own_at vs256_b12 (ss + (3 : Int32))))])) _
                     rw [own_n1 hc3]
                     exact kt)
                    by_cases hc371_299 : (own_at vs256_b12 (ss + (3 : Int32))) = c3
                    · have pre301 : ∀ t, Steps p.tables e below (T256.setTop (mkF m 379 #[.val (.long q0), .second, .val (.long q1), .second, iv p2, iv p3, iv nn, iv c0, iv c1, iv c2, iv c3, rv sg_3, rv b12, iv ss, iv ee, x256_L15, .unset, .unset] [(.int (1 : Int32))])) t → Steps p.tables e below (s₁.setTop (entryFrame m #[(.long q0), (.long q1), (.int p2), (.int p3)] maxLocals)) t := fun t kt => pre300 t (by
                       refine XS.icmpNo X256.here hx rfl (hb hby at_371) rfl (teq hc371_299).2 ?_
                       refine XS.iconst X256.here hx rfl (hb hby at_374) ?_
                       refine XS.goto X256.here hx rfl (pc0 := 375) (pc' := 379) rfl (hb hby at_375) (by decide) (by decide) ?_
                       exact kt)
                      exact ⟨T256, _, (1 : Int32), X256.more (by decide) (by decide), N256, rfl, (by unfold own_is; rw [if_pos hc297_275, if_pos (own_gp0 hc303_277), if_pos (show (own_at vs256_b12 ss) = (own_at (own_nm nn c0 c1 c2 c3) (0 : Int32)) from hc314_281.trans (own_nma0 hnn (own_gp0 hc303_277)).symm), if_pos (own_gp1 hc320_283), if_pos (show (own_at vs256_b12 (ss + (1 : Int32))) = (own_at (own_nm nn c0 c1 c2 c3) (1 : Int32)) from hc333_287.trans (own_nma1 hnn (own_gp1 hc320_283)).symm), if_pos (own_gp2 hc339_289), if_pos (show (own_at vs256_b12 (ss + (2 : Int32))) = (own_at (own_nm nn c0 c1 c2 c3) (2 : Int32)) from hc352_293.trans (own_nma2 hnn (own_gp2 hc339_289)).symm), if_pos (own_gp3 hc358_295), if_pos (show (own_at vs256_b12 (ss + (3 : Int32))) = (own_at (own_nm nn c0 c1 c2 c3) (3 : Int32)) from hc371_299.trans (own_nma3 hnn (own_gp3 hc358_295)).symm)]), pre301⟩
                    · have pre302 : ∀ t, Steps p.tables e below (T256.setTop (mkF m 379 #[.val (.long q0), .second, .val (.long q1), .second, iv p2, iv p3, iv nn, iv c0, iv c1, iv c2, iv c3, rv sg_3, rv b12, iv ss, iv ee, x256_L15, .unset, .unset] [(.int (0 : Int32))])) t → Steps p.tables e below (s₁.setTop (entryFrame m #[(.long q0), (.long q1), (.int p2), (.int p3)] maxLocals)) t := fun t kt => pre300 t (by
                       refine XS.icmpYes X256.here hx rfl (pc0 := 371) (pc' := 378) rfl (hb hby at_371) rfl (feq hc371_299).2 (by decide) (by decide) ?_
                       refine XS.iconst X256.here hx rfl (hb hby at_378) ?_
                       exact kt)
                      exact ⟨T256, _, (0 : Int32), X256.more (by decide) (by decide), N256, rfl, (by unfold own_is; rw [if_pos hc297_275, if_pos (own_gp0 hc303_277), if_pos (show (own_at vs256_b12 ss) = (own_at (own_nm nn c0 c1 c2 c3) (0 : Int32)) from hc314_281.trans (own_nma0 hnn (own_gp0 hc303_277)).symm), if_pos (own_gp1 hc320_283), if_pos (show (own_at vs256_b12 (ss + (1 : Int32))) = (own_at (own_nm nn c0 c1 c2 c3) (1 : Int32)) from hc333_287.trans (own_nma1 hnn (own_gp1 hc320_283)).symm), if_pos (own_gp2 hc339_289), if_pos (show (own_at vs256_b12 (ss + (2 : Int32))) = (own_at (own_nm nn c0 c1 c2 c3) (2 : Int32)) from hc352_293.trans (own_nma2 hnn (own_gp2 hc339_289)).symm), if_pos (own_gp3 hc358_295), if_neg (show ¬ ((own_at vs256_b12 (ss + (3 : Int32))) = (own_at (own_nm nn c0 c1 c2 c3) (3 : Int32))) from fun q => hc371_299 (q.trans (own_nma3 hnn (own_gp3 hc358_295))))]), pre302⟩
                · have pre303 : ∀ t, Steps p.tables e below (T256.setTop (mkF m 379 #[.val (.long q0), .second, .val (.long q1), .second, iv p2, iv p3, iv nn, iv c0, iv c1, iv c2, iv c3, rv sg_3, rv b12, iv ss, iv ee, x256_L15, .unset, .unset] [(.int (0 : Int32))])) t → Steps p.tables e below (s₁.setTop (entryFrame m #[(.long q0), (.long q1), (.int p2), (.int p3)] maxLocals)) t := fun t kt => pre294 t (by
                   refine XS.icmpYes X256.here hx rfl (pc0 := 352) (pc' := 378) rfl (hb hby at_352) rfl (feq hc352_293).2 (by decide) (by decide) ?_
                   refine XS.iconst X256.here hx rfl (hb hby at_378) ?_
                   exact kt)
                  exact ⟨T256, _, (0 : Int32), X256.more (by decide) (by decide), N256, rfl, (by unfold own_is; rw [if_pos hc297_275, if_pos (own_gp0 hc303_277), if_pos (show (own_at vs256_b12 ss) = (own_at (own_nm nn c0 c1 c2 c3) (0 : Int32)) from hc314_281.trans (own_nma0 hnn (own_gp0 hc303_277)).symm), if_pos (own_gp1 hc320_283), if_pos (show (own_at vs256_b12 (ss + (1 : Int32))) = (own_at (own_nm nn c0 c1 c2 c3) (1 : Int32)) from hc333_287.trans (own_nma1 hnn (own_gp1 hc320_283)).symm), if_pos (own_gp2 hc339_289), if_neg (show ¬ ((own_at vs256_b12 (ss + (2 : Int32))) = (own_at (own_nm nn c0 c1 c2 c3) (2 : Int32))) from fun q => hc352_293 (q.trans (own_nma2 hnn (own_gp2 hc339_289))))]), pre303⟩
            · have pre304 : ∀ t, Steps p.tables e below (T256.setTop (mkF m 379 #[.val (.long q0), .second, .val (.long q1), .second, iv p2, iv p3, iv nn, iv c0, iv c1, iv c2, iv c3, rv sg_3, rv b12, iv ss, iv ee, x256_L15, .unset, .unset] [(.int (0 : Int32))])) t → Steps p.tables e below (s₁.setTop (entryFrame m #[(.long q0), (.long q1), (.int p2), (.int p3)] maxLocals)) t := fun t kt => pre288 t (by
               refine XS.icmpYes X256.here hx rfl (pc0 := 333) (pc' := 378) rfl (hb hby at_333) rfl (feq hc333_287).2 (by decide) (by decide) ?_
               refine XS.iconst X256.here hx rfl (hb hby at_378) ?_
               exact kt)
              exact ⟨T256, _, (0 : Int32), X256.more (by decide) (by decide), N256, rfl, (by unfold own_is; rw [if_pos hc297_275, if_pos (own_gp0 hc303_277), if_pos (show (own_at vs256_b12 ss) = (own_at (own_nm nn c0 c1 c2 c3) (0 : Int32)) from hc314_281.trans (own_nma0 hnn (own_gp0 hc303_277)).symm), if_pos (own_gp1 hc320_283), if_neg (show ¬ ((own_at vs256_b12 (ss + (1 : Int32))) = (own_at (own_nm nn c0 c1 c2 c3) (1 : Int32))) from fun q => hc333_287 (q.trans (own_nma1 hnn (own_gp1 hc320_283))))]), pre304⟩
        · have pre305 : ∀ t, Steps p.tables e below (T256.setTop (mkF m 379 #[.val (.long q0), .second, .val (.long q1), .second, iv p2, iv p3, iv nn, iv c0, iv c1, iv c2, iv c3, rv sg_3, rv b12, iv ss, iv ee, x256_L15, .unset, .unset] [(.int (0 : Int32))])) t → Steps p.tables e below (s₁.setTop (entryFrame m #[(.long q0), (.long q1), (.int p2), (.int p3)] maxLocals)) t := fun t kt => pre282 t (by
           refine XS.icmpYes X256.here hx rfl (pc0 := 314) (pc' := 378) rfl (hb hby at_314) rfl (feq hc314_281).2 (by decide) (by decide) ?_
           refine XS.iconst X256.here hx rfl (hb hby at_378) ?_
           exact kt)
          exact ⟨T256, _, (0 : Int32), X256.more (by decide) (by decide), N256, rfl, (by unfold own_is; rw [if_pos hc297_275, if_pos (own_gp0 hc303_277), if_neg (show ¬ ((own_at vs256_b12 ss) = (own_at (own_nm nn c0 c1 c2 c3) (0 : Int32))) from fun q => hc314_281 (q.trans (own_nma0 hnn (own_gp0 hc303_277))))]), pre305⟩
    · have pre306 : ∀ t, Steps p.tables e below (T256.setTop (mkF m 379 #[.val (.long q0), .second, .val (.long q1), .second, iv p2, iv p3, iv nn, iv c0, iv c1, iv c2, iv c3, rv sg_3, rv b12, iv ss, iv ee, x256_L15, .unset, .unset] [(.int (0 : Int32))])) t → Steps p.tables e below (s₁.setTop (entryFrame m #[(.long q0), (.long q1), (.int p2), (.int p3)] maxLocals)) t := fun t kt => pre276 t (by
       refine XS.icmpYes X256.here hx rfl (pc0 := 297) (pc' := 378) rfl (hb hby at_297) rfl (feq hc297_275).2 (by decide) (by decide) ?_
       refine XS.iconst X256.here hx rfl (hb hby at_378) ?_
       exact kt)
      exact ⟨T256, _, (0 : Int32), X256.more (by decide) (by decide), N256, rfl, (by unfold own_is; rw [if_neg hc297_275]), pre306⟩
  obtain ⟨T307, L307, x307_S0, X307, N307, e307, rfl, pre307⟩ := Mg307
  have Mg310 : ∃ (T310 : State) (L310 : List Loc), Stand p l e room_1 (s.setVm T3.vm) m #[(.long q0), (.long q1), (.int p2), (.int p3)] below meth c T310 L310 7 20 ∧ Fr n0 L310 ∧ T310.heap = T256.heap ∧ (∀ t, Steps p.tables e below (T310.setTop (mkF m 381 #[.val (.long q0), .second, .val (.long q1), .second, iv p2, iv p3, iv nn, iv c0, iv c1, iv c2, iv c3, rv sg_3, rv b12, iv ss, iv ee, iv (own_is ss ee nn (own_nm nn c0 c1 c2 c3) vs256_b12), .unset, .unset] [])) t → Steps p.tables e below (s₁.setTop (entryFrame m #[(.long q0), (.long q1), (.int p2), (.int p3)] maxLocals)) t) := by
    rcases mp_x256_L15 with rfl | ⟨v_, rfl⟩
    · have pre308 : ∀ t, Steps p.tables e below (T307.setTop (mkF m 381 #[.val (.long q0), .second, .val (.long q1), .second, iv p2, iv p3, iv nn, iv c0, iv c1, iv c2, iv c3, rv sg_3, rv b12, iv ss, iv ee, iv (own_is ss ee nn (own_nm nn c0 c1 c2 c3) vs256_b12), .unset, .unset] [])) t → Steps p.tables e below (s₁.setTop (entryFrame m #[(.long q0), (.long q1), (.int p2), (.int p3)] maxLocals)) t := fun t kt => pre307 t (by
       refine XS.istore X307.here hx rfl (hb hby at_379) rfl (l' := #[.val (.long q0), .second, .val (.long q1), .second, iv p2, iv p3, iv nn, iv c0, iv c1, iv c2, iv c3, rv sg_3, rv b12, iv ss, iv ee, iv (own_is ss ee nn (own_nm nn c0 c1 c2 c3) vs256_b12), .unset, .unset]) rfl ?_
       exact kt)
      exact ⟨T307, _, X307.more (by decide) (by decide), N307, e307, pre308⟩
    · have pre309 : ∀ t, Steps p.tables e below (T307.setTop (mkF m 381 #[.val (.long q0), .second, .val (.long q1), .second, iv p2, iv p3, iv nn, iv c0, iv c1, iv c2, iv c3, rv sg_3, rv b12, iv ss, iv ee, iv (own_is ss ee nn (own_nm nn c0 c1 c2 c3) vs256_b12), .unset, .unset] [])) t → Steps p.tables e below (s₁.setTop (entryFrame m #[(.long q0), (.long q1), (.int p2), (.int p3)] maxLocals)) t := fun t kt => pre307 t (by
       refine XS.istore X307.here hx rfl (hb hby at_379) rfl (l' := #[.val (.long q0), .second, .val (.long q1), .second, iv p2, iv p3, iv nn, iv c0, iv c1, iv c2, iv c3, rv sg_3, rv b12, iv ss, iv ee, iv (own_is ss ee nn (own_nm nn c0 c1 c2 c3) vs256_b12), .unset, .unset]) rfl ?_
       exact kt)
      exact ⟨T307, _, X307.more (by decide) (by decide), N307, e307, pre309⟩
  obtain ⟨T310, L310, X310, N310, e310, pre310⟩ := Mg310
  obtain ⟨T311, h311, X311, e311, E311, A311, D311, U311, st311⟩ := newO X310 hx hZ3 hown3 (own_g hw 28 rfl) (own_g hw 29 rfl) (own_g hw 30 rfl) e310 (g := (mkF m 381 #[.val (.long q0), .second, .val (.long q1), .second, iv p2, iv p3, iv nn, iv c0, iv c1, iv c2, iv c3, rv sg_3, rv b12, iv ss, iv ee, iv (own_is ss ee nn (own_nm nn c0 c1 c2 c3) vs256_b12), .unset, .unset] [])) rfl (hb hby at_381) (by decide) (by decide)
  obtain ⟨b311, g311⟩ : ∃ z, z = T256.heap.size := ⟨_, rfl⟩
  rw [← g311] at A311 D311 U311 st311
  have ne312 : kd ≠ b311 := Nat.ne_of_lt (Nat.lt_of_lt_of_le f265.lt (Nat.le_of_eq g311.symm))
  have ne313 : sg_3 ≠ b311 := Nat.ne_of_lt (Nat.lt_of_lt_of_le f267.lt (Nat.le_of_eq g311.symm))
  have ne314 : t_3 ≠ b311 := Nat.ne_of_lt (Nat.lt_of_lt_of_le f270.lt (Nat.le_of_eq g311.symm))
  have ne315 : b12 ≠ b311 := Nat.ne_of_lt (Nat.lt_of_lt_of_le f273.lt (Nat.le_of_eq g311.symm))
  have o311 : n0 ≤ b311 := Nat.le_trans f257 (Nat.le_of_eq g311.symm)
  have z311 : h0.size ≤ b311 := Nat.le_trans K256.1 (Nat.le_of_eq g311.symm)
  have CH316 : CHr Z own_EL s.vm h0 T3.vm h311 := CH256.trans (CHr.ext E311 CH256.1)
  have Yb317 : Safe Z own_EL T3.vm h311 b311 := Safe.ext E311 CH256.1 (Safe.new (Nat.le_of_eq g311.symm))
  have K311 : Keep h0 h311 [] := K256.ext E311
  have f318 : Fld Z h311 b311 "com/example/bundlewright/bundlewright/core/Name" "written" "Ljava/lang/String;" .null := D311 (Or.inr (own_g hw 36 rfl)) (ty := (.object "java/lang/String")) (by decide)
  have f319 : Fld Z h311 b311 "com/example/bundlewright/bundlewright/core/Name" "ascii" "[B" .null := D311 (Or.inr (own_g hw 76 rfl)) (ty := (.array .byte)) (by decide)
  have f320 : Fld Z h311 b311 "com/example/bundlewright/bundlewright/core/Name" "hash" "I" (.int (0 : Int32)) := D311 (Or.inr (own_g hw 78 rfl)) (ty := .int) (by decide)
  have f321 : Fld Z h311 b311 "com/example/bundlewright/bundlewright/core/Name" "qualified" "Z" (.int (0 : Int32)) := D311 (Or.inr (own_g hw 114 rfl)) (ty := .boolean) (by decide)
  have f322 : Fld Z h311 b311 "com/example/bundlewright/bundlewright/core/Name" "prefix" "Ljava/lang/String;" .null := D311 (Or.inr (own_g hw 117 rfl)) (ty := (.object "java/lang/String")) (by decide)
  have f323 : Fld Z h311 b311 "com/example/bundlewright/bundlewright/core/Name" "local" "Ljava/lang/String;" .null := D311 (Or.inr (own_g hw 119 rfl)) (ty := (.object "java/lang/String")) (by decide)
  have f324 : Fld Z h311 b311 "com/example/bundlewright/bundlewright/core/Name" "declared" "Ljava/lang/String;" .null := D311 (Or.inr (own_g hw 131 rfl)) (ty := (.object "java/lang/String")) (by decide)
  have f325 : Fld Z h311 b311 "com/example/bundlewright/bundlewright/core/Name" "reservedPrefix" "Z" (.int (0 : Int32)) := D311 (Or.inr (own_g hw 134 rfl)) (ty := .boolean) (by decide)
  have pre326 : ∀ t, Steps p.tables e below (T311.setTop (mkF m 389 #[.val (.long q0), .second, .val (.long q1), .second, iv p2, iv p3, iv nn, iv c0, iv c1, iv c2, iv c3, rv sg_3, rv b12, iv ss, iv ee, iv (own_is ss ee nn (own_nm nn c0 c1 c2 c3) vs256_b12), .unset, .unset] [(.int p3), (.ref sg_3), (.ref b311), (.ref b311)])) t → Steps p.tables e below (s₁.setTop (entryFrame m #[(.long q0), (.long q1), (.int p2), (.int p3)] maxLocals)) t := fun t kt => pre310 t (by
   show Steps _ _ _ (T310.setTop (mkF m 381 #[.val (.long q0), .second, .val (.long q1), .second, iv p2, iv p3, iv nn, iv c0, iv c1, iv c2, iv c3, rv sg_3, rv b12, iv ss, iv ee, iv (own_is ss ee nn (own_nm nn c0 c1 c2 c3) vs256_b12), .unset, .unset] [])) _
   refine st311 _ ?_
   refine XS.dup X311.here hx rfl (hb hby at_384) rfl rfl ?_
   refine XS.aload X311.here hx rfl (hb hby at_385) rfl rfl ?_
   refine XS.iload X311.here hx rfl (hb hby at_387) rfl ?_
   exact kt)
  have f327 := (f267.ext E311)
  have f328 := (f268.ext E311)
  have f329 := (f269.ext E311)
  have f330 := (f271.ext E311)
  have f331 := (f270.ext E311)
  have f332 := (f260.ext E311)
  have f333 := (f261.ext E311)
  have f334 := (f262.ext E311)
  have f335 := (f263.ext E311)
  have f336 := (f258.ext E311)
  have f337 := (f259.ext E311)
  have f338 := (f264.ext E311)
  have f339 := (f265.ext E311)
  have f340 := (Nat.le_trans f257 E311.1)
  have f342 := (Nat.le_trans f266 E311.1)
  have f343 : Safe Z own_EL T3.vm h311 b12 := (Safe.ext E311 CH256.1 f272)
  have f344 := (f273.ext E311)
  obtain ⟨_, _, ⟨T341, L341, k341, n341⟩, -, Xw341, hSw341, gr341, ⟨Lc341, hQ341, l341, y341, z341, CHq341⟩, st341⟩ := X311.specialBackS hx (y := own_y36) rfl hown3 (mvT hZ3 (own_g hw 31 rfl)) (mvT hZ3 (own_g hw 32 rfl)) (mvT hZ3 (own_g hw 33 rfl)) (by decide) (backOfSH (W := 1) (rmNI l Z a0 hw [] b311 sg_3 p3 t_3 kt_3 nn (own_nm nn c0 c1 c2 c3) a8 ai ua zC fv kd kK vK h311 n0 f340 A311 f318 f319 f320 f321 f322 f323 f324 f325 f327 f328 f329 f330 f331 (own_z4 hnn) (own_nmpos hc0 hc1 hc2 hc3) f332 f333 f334 neU8 neUI f335 ne313 ne314 ne312 f336 hz f337 hfv f338 f339 o311) hZ3 (own_g hw 33 rfl) (own_g hw 30 rfl) (by decide) (by decide) hEL CH316.1) (g := (mkF m 389 #[.val (.long q0), .second, .val (.long q1), .second, iv p2, iv p3, iv nn, iv c0, iv c1, iv c2, iv c3, rv sg_3, rv b12, iv ss, iv ee, iv (own_is ss ee nn (own_nm nn c0 c1 c2 c3) vs256_b12), .unset, .unset] [(.int p3), (.ref sg_3), (.ref b311), (.ref b311)])) rfl (by rw [hml]; rfl) (Steps.refl _) (a := b311) (argsL := [(.ref sg_3), (.int p3)]) (rest := [(.ref b311)]) (lenOf pd__Ljava_lang_String_I_V rfl) rfl (by show 2 * 0 + _ ≤ _; exact Nat.le_of_eq rfl) (hb hby at_389) (fun _ _ => ⟨rfl, e311, (by decide : 8 + 13 ≤ _), (by decide : 29 + 108 ≤ _)⟩)
  dsimp only [Pt.U, Pt.locs, Pt.cells, Pt.slots] at Xw341 hSw341 gr341 l341 y341 z341 st341 hQ341 CHq341
  subst l341 y341 z341
  obtain ⟨X341, hS341, hZ341, hown341⟩ := rebS hS3 (by rw [e311]; exact f342) Xw341 hSw341 gr341 hZ3 hown3
  obtain ⟨ta_341, ka_341, rfl, N341q, K341, sx341_0, f345, f346, f347⟩ := hQ341
  have ota_341 : n0 ≤ ta_341 := Nat.le_trans f340 sx341_0
  have zta_341 : h0.size ≤ ta_341 := Nat.le_trans K311.1 sx341_0
  have ne348 : kd ≠ ta_341 := Nat.ne_of_lt (Nat.lt_of_lt_of_le f339.lt sx341_0)
  have ne349 : sg_3 ≠ ta_341 := Nat.ne_of_lt (Nat.lt_of_lt_of_le f327.lt sx341_0)
  have ne350 : t_3 ≠ ta_341 := Nat.ne_of_lt (Nat.lt_of_lt_of_le f331.lt sx341_0)
  have ne351 : b12 ≠ ta_341 := Nat.ne_of_lt (Nat.lt_of_lt_of_le f344.lt sx341_0)
  have ne352 : b311 ≠ ta_341 := Nat.ne_of_lt (Nat.lt_of_lt_of_le A311.lt sx341_0)
  have KK341 : Keep h0 T341.heap [] := Keep.trans K311 K341 (allS (Or.inr z311) all0)
  have CH353 : CHr Z own_EL s.vm h0 T341.vm T341.heap := CH316.trans CHq341
  have Yr354 : Safe Z own_EL T341.vm T341.heap b12 := CHr.safe CHq341 f344.lt f343
  have Yr355 : Safe Z own_EL T341.vm T341.heap b311 := CHr.safe CHq341 A311.lt Yb317
  have N341 := Fr.app N310 N341q
  have pre356 : ∀ t, Steps p.tables e below (T341.setTop (mkF m 402 #[.val (.long q0), .second, .val (.long q1), .second, iv p2, iv p3, iv nn, iv c0, iv c1, iv c2, iv c3, rv sg_3, rv b12, iv ss, iv ee, iv (own_is ss ee nn (own_nm nn c0 c1 c2 c3) vs256_b12), rv b311, .unset] [(.int ee), (.int ss), (.ref b12), (.ref b311)])) t → Steps p.tables e below (s₁.setTop (entryFrame m #[(.long q0), (.long q1), (.int p2), (.int p3)] maxLocals)) t := fun t kt => pre326 t (by
   show Steps _ _ _ (T311.setTop (mkF m 389 #[.val (.long q0), .second, .val (.long q1), .second, iv p2, iv p3, iv nn, iv c0, iv c1, iv c2, iv c3, rv sg_3, rv b12, iv ss, iv ee, iv (own_is ss ee nn (own_nm nn c0 c1 c2 c3) vs256_b12), .unset, .unset] [(.int p3), (.ref sg_3), (.ref b311), (.ref b311)])) _
   refine st341.trans ?_
   refine XS.astore X341.here hx rfl (hb hby at_392) rfl rfl (l' := #[.val (.long q0), .second, .val (.long q1), .second, iv p2, iv p3, iv nn, iv c0, iv c1, iv c2, iv c3, rv sg_3, rv b12, iv ss, iv ee, iv (own_is ss ee nn (own_nm nn c0 c1 c2 c3) vs256_b12), rv b311, .unset]) rfl ?_
   refine XS.aload X341.here hx rfl (hb hby at_394) rfl rfl ?_
   refine XS.aload X341.here hx rfl (hb hby at_396) rfl rfl ?_
   refine XS.iload X341.here hx rfl (hb hby at_398) rfl ?_
   refine XS.iload X341.here hx rfl (hb hby at_400) rfl ?_
   exact kt)
  have f357 := ((f274.ext E311).keep K341 (ninS ne315 nin0))
  have f358 := (Nat.le_trans f340 K341.1)
  obtain ⟨cq360, kq360, q360a, q360b, q360c⟩ := isOf hZ341 rfl f345
  obtain ⟨_, _, ⟨T359, L359, k359, n359⟩, -, X359, ⟨Lc359, hQ359, l359, y359, z359⟩, st359⟩ := X341.virtualBack hx (y := own_y37) (z := own_y37) hown341 (mvT hZ341 (own_g hw 135 rfl)) (mvT hZ341 (own_g hw 136 rfl)) (notFace_of_selects (args := #[]) (mvT hZ341 (own_g hw 138 rfl))) (mvT hZ341 (own_g hw 138 rfl)) (mvT hZ341 (own_g hw 137 rfl)) (by decide) (backOf (W := 0) (rmIs l Z a0 hw [] b311 b12 ss ee ta_341 ka_341 nn (own_nm nn c0 c1 c2 c3) k12 vs256_b12 T341.heap n0 f358 f345 f346 f347 f357 (own_z4 hnn) hss) hZ341 (own_g hw 139 rfl) (own_g hw 30 rfl) (by decide) (by decide)) q360a q360c (g := (mkF m 402 #[.val (.long q0), .second, .val (.long q1), .second, iv p2, iv p3, iv nn, iv c0, iv c1, iv c2, iv c3, rv sg_3, rv b12, iv ss, iv ee, iv (own_is ss ee nn (own_nm nn c0 c1 c2 c3) vs256_b12), rv b311, .unset] [(.int ee), (.int ss), (.ref b12), (.ref b311)])) rfl (by rw [hml]; rfl) (Steps.refl _) (argsL := [(.ref b12), (.int ss), (.int ee)]) (rest := []) (lenOf pd___BII_Z rfl) rfl (by show 2 * 0 + _ ≤ _; exact Nat.le_of_eq rfl) (hb hby at_402) (fun _ _ => ⟨rfl, rfl, (by decide : 21 + 0 ≤ _), (by decide : 137 + 0 ≤ _)⟩)
  dsimp only [Pt.U, Pt.locs, Pt.cells, Pt.slots] at X359 l359 y359 z359 st359 hQ359
  subst l359 y359 z359
  obtain ⟨rfl, N359q, e359⟩ := hQ359
  have N359 := Fr.app N341 N359q
  obtain ⟨fs, hr, hrun, hended, hW, hsame⟩ := X359.leave (v := some (.int (1 : Int32))) (fun h => by rw [Bd.returns] at h; cases h)
  have qE := hS341.ended (c := room_1.cells) (k := room_1.slots) hW (show _ ≤ T359.heap.size from (by rw [e359]; exact (Nat.le_refl _))) (hsame.mono (by decide) (by decide))
  refine ⟨_, _, pre356 _ ?_, hrun, hended, _, _, rfl, ?_, ⟨_, rfl⟩, qE.1, qE.2.1, qE.2.2⟩
  · show Steps _ _ _ (T341.setTop (mkF m 402 #[.val (.long q0), .second, .val (.long q1), .second, iv p2, iv p3, iv nn, iv c0, iv c1, iv c2, iv c3, rv sg_3, rv b12, iv ss, iv ee, iv (own_is ss ee nn (own_nm nn c0 c1 c2 c3) vs256_b12), rv b311, .unset] [(.int ee), (.int ss), (.ref b12), (.ref b311)])) _
    refine st359.trans ?_
    refine XS.istore X359.here hx rfl (hb hby at_405) rfl (l' := #[.val (.long q0), .second, .val (.long q1), .second, iv p2, iv p3, iv nn, iv c0, iv c1, iv c2, iv c3, rv sg_3, rv b12, iv ss, iv ee, iv (own_is ss ee nn (own_nm nn c0 c1 c2 c3) vs256_b12), rv b311, iv (own_is ss ee nn (own_nm nn c0 c1 c2 c3) vs256_b12)]) rfl ?_
    refine XS.iload X359.here hx rfl (hb hby at_407) rfl ?_
    refine XS.iload X359.here hx rfl (hb hby at_409) rfl ?_
    refine XS.icmpNo X359.here hx rfl (hb hby at_411) rfl (teq (rfl : (own_is ss ee nn (own_nm nn c0 c1 c2 c3) vs256_b12) = (own_is ss ee nn (own_nm nn c0 c1 c2 c3) vs256_b12))).2 ?_
    refine XS.iconst X359.here hx rfl (hb hby at_414) ?_
    refine XS.goto X359.here hx rfl (pc0 := 415) (pc' := 419) rfl (hb hby at_415) (by decide) (by decide) ?_
    show Steps _ _ _ (T359.setTop (mkF m 419 #[.val (.long q0), .second, .val (.long q1), .second, iv p2, iv p3, iv nn, iv c0, iv c1, iv c2, iv c3, rv sg_3, rv b12, iv ss, iv ee, iv (own_is ss ee nn (own_nm nn c0 c1 c2 c3) vs256_b12), rv b311, iv (own_is ss ee nn (own_nm nn c0 c1 c2 c3) vs256_b12)] [(.int (1 : Int32))])) _
    exact retN X359 hx (t := .boolean) Bd.returns (by simp) (hb hby at_419) hr
  · show own_Q0 n0 _ T359.heap _
    rw [e359]
    exact ⟨rfl, N359⟩

set_option maxRecDepth 65536 in
set_option maxHeartbeats 40000000 in
theorem comes_1 {Post : Tables → Env → Array Value → State → Outcome → State → Prop} (hpost : ∀ tb e args s v u, (limb_1_1.after args s (.returned v) u = true ∧ limb_1_2.after args s (.returned v) u = true ∧ True) → ReturnedEndW s (.returned v) u (Jvm.fieldLocs frame_1_writes args s ++ Jvm.arrayLocs frame_1_arrays args s ++ Jvm.staticLocs frame_1_statics s) 40 5312 → Post tb e args s (.returned v) u) :
    ArmFor flags0 classFile x code maxLocals ret World_1 tables_1 room_1 Calls_1 rest_1 Pre_1 Post := by
  intro l hfl _ _ p e ha hc hk s m args below hf hA hF happ hP
  obtain ⟨hcalls, hrest, hpre⟩ := hP
  obtain ⟨-, -, -, hnamed, -, -, -, hat⟩ := (Spec.applies_iff hf).mp happ
  obtain ⟨hg, hn⟩ := and_e (Cond.before_iff.mp (show (Jvm.Cond.and given_1 narrow_1).before args s = true from hpre))
  obtain ⟨g0, gr1⟩ := and_e hg
  obtain ⟨g1, gr2⟩ := and_e gr1
  obtain ⟨g2, gr3⟩ := and_e gr2
  obtain ⟨g3, g4⟩ := and_e gr3
  obtain ⟨k0, kr1⟩ := and_e hn
  obtain ⟨k1, kr2⟩ := and_e kr1
  obtain ⟨k2, kr3⟩ := and_e kr2
  obtain ⟨k3, kr4⟩ := and_e kr3
  obtain ⟨k4, kr5⟩ := and_e kr4
  obtain ⟨k5, kr6⟩ := and_e kr5
  obtain ⟨k6, kr7⟩ := and_e kr6
  obtain ⟨k7, kr8⟩ := and_e kr7
  obtain ⟨k8, kr9⟩ := and_e kr8
  obtain ⟨k9, kr10⟩ := and_e kr9
  obtain ⟨k10, kr11⟩ := and_e kr10
  obtain ⟨k11, kr12⟩ := and_e kr11
  obtain ⟨k12, kr13⟩ := and_e kr12
  obtain ⟨k13, k14⟩ := and_e kr13
  obtain ⟨w0, w1, w2, w3, rfl⟩ : ∃ w0 w1 w2 w3 : Value, args = #[w0, w1, w2, w3] := by
    have hs : args.size = 4 := by simpa [Cond.value, given_1] using g0
    obtain ⟨L⟩ := args
    match L, hs with
    | [w0, w1, w2, w3], _ => exact ⟨w0, w1, w2, w3, rfl⟩
  have hw := fun d (hd : d ∈ tables_1) => atoms_spec (ws := Jvm.Cond.code x code maxLocals ret :: tables_1) hat d (List.mem_cons_of_mem _ hd)
  have hfit : Fit s := fun {y c} hc i hi => by
    obtain ⟨ha, rfl⟩ := Array.getElem?_eq_some_iff.mp hc
    have q := List.all_eq_true.mp ((Array.all_eq_true_iff_forall_mem.mp hF) _ (Array.getElem_mem ha)) i (List.mem_range.mpr hi)
    simpa [Array.getElem?_eq_getElem hi] using q
  obtain ⟨hsets, hown0⟩ := atoms_of _ (rest_1_c_eq ▸ (show rest_1_c.before _ s = true from hrest))
  have hr0 := Cond.before_iff.mp hown0
  obtain ⟨i0, ei0⟩ := isL_v g1
  obtain rfl : w0 = (.long i0) := Option.some.inj ei0
  obtain ⟨i1, ei1⟩ := isL_v g2
  obtain rfl : w1 = (.long i1) := Option.some.inj ei1
  obtain ⟨i2, ei2⟩ := is_v g3
  obtain rfl : w2 = (.int i2) := Option.some.inj ei2
  obtain ⟨i3, ei3⟩ := is_v g4
  obtain rfl : w3 = (.int i3) := Option.some.inj ei3
  obtain ⟨zC, eC⟩ := is_v (Cond.before_iff.mp (hsets _ (List.mem_of_getElem? (i := 7) rfl)))
  have SC : Sta s s.heap "java/lang/String" "COMPACT_STRINGS" "Z" (.int zC) := Sta.start eC (Or.inl (hsets _ (List.mem_of_getElem? (i := 6) rfl)))
  have hz : ¬ (zC = (0 : Int32)) := gotF (Cond.eq_ints eC (Term.int_eval _)) (not_v (Cond.before_iff.mp (hsets _ (List.mem_of_getElem? (i := 8) rfl))))
  obtain ⟨fv, eF, hf_⟩ := isR_v (Cond.before_iff.mp (hsets _ (List.mem_of_getElem? (i := 14) rfl)))
  have hfv := ref_cases hf_
  obtain ⟨ua, eU⟩ := exa_v (Cond.before_iff.mp (hsets _ (List.mem_of_getElem? (i := 23) rfl)))
  have eS := own_eqR (Cond.before_iff.mp (hsets _ (List.mem_of_getElem? (i := 4) rfl))) eU
  obtain ⟨a8, e8⟩ := exa_v (Cond.before_iff.mp (hsets _ (List.mem_of_getElem? (i := 17) rfl)))
  obtain ⟨ai, eI⟩ := exa_v (Cond.before_iff.mp (hsets _ (List.mem_of_getElem? (i := 20) rfl)))
  have n8 : ua ≠ a8 := own_neX (Exa.start eU (Cond.before_iff.mp (hsets _ (List.mem_of_getElem? (i := 23) rfl)))) (Exa.start e8 (Cond.before_iff.mp (hsets _ (List.mem_of_getElem? (i := 17) rfl)))) (by decide)
  have nI : ua ≠ ai := own_neX (Exa.start eU (Cond.before_iff.mp (hsets _ (List.mem_of_getElem? (i := 23) rfl)))) (Exa.start eI (Cond.before_iff.mp (hsets _ (List.mem_of_getElem? (i := 20) rfl)))) (by decide)
  obtain ⟨kd, eK⟩ := arr_v k0
  obtain ⟨cl, A0⟩ := Arr.start eK k0
  obtain ⟨z1, z2⟩ := own_len (own_eqI k1) eK A0
  obtain ⟨vK, GK⟩ := own_startG hfit A0 z1 z2 (by decide)
  obtain ⟨n, o, h1, h2, h3, _, L, rfl, ⟨rfl, N⟩, hq⟩ := rm0 l s _ hw tables_1 i0 i1 i2 i3 zC fv a8 ai ua kd cl.cls vK s.heap s.heap.size (Nat.le_refl _) SC hz (Sta.start eF (Or.inl (hsets _ (List.mem_of_getElem? (i := 13) rfl)))) hfv (Sta.start eU (Or.inl (hsets _ (List.mem_of_getElem? (i := 22) rfl)))) (Sta.start e8 (Or.inl (hsets _ (List.mem_of_getElem? (i := 16) rfl)))) (Sta.start eI (Or.inl (hsets _ (List.mem_of_getElem? (i := 19) rfl)))) n8 nI (Sta.start eS (Or.inl (hsets _ (List.mem_of_getElem? (i := 1) rfl)))) (Sta.start eK (Or.inr ⟨(own_g hw 30 rfl), (own_g hw 215 rfl)⟩)) GK p e ha hc hk s m _ below hf ((Spec.applies_iff_loose hf).mp happ).1 ⟨rfl, State.Warmed39.refl s, rfl, CHv.start (own_hEL hw) (fun p hp => hcalls.1 p hp) (hsets _ (List.mem_of_getElem? (i := 8) rfl)) (own_g hw 21 rfl) (own_g hw 7 rfl)⟩ trivial
  refine ⟨n, _, h1, h2, h3, hpost _ _ _ _ _ _ ⟨Cond.after_iff.mpr rfl, Cond.after_iff.mpr (eq_i res_at (Term.int_eval (1)) rfl), trivial⟩ ⟨hq.1, hq.2.1, hq.2.2.1, (hq.2.2.2.sift fun y hy => Or.inr (N y hy)).mono (by decide) (by decide)⟩⟩
theorem main_1_1 : Claimed_1_1 := comes_1 fun _ _ _ _ _ _ h hF => ⟨h.1, hF⟩
theorem main_1_2 : Claimed_1_2 := comes_1 fun _ _ _ _ _ _ h hF => ⟨h.2.1, hF⟩
end Jvm.Pilot.@@N@@
namespace Jvm.Pilot.@@N@@
open Jvm Jvm.ClassFile Sem Op Lib Jvm.Free Jvm.Stand Jvm.Pilot.@@N@@.Jvm.D
/-! MADE BY PROGRAM (witnessworld.py) out of the Statement's table words and the real class files: 31 classes; the members and pool entries that the words name. The judged class is class 1, her method 2. -/
namespace start1
open Jvm.ClassFile
def u (s : String) : CpInfo := .utf8 (stringToUtf16 s)
/-- a pool by its gaps: so many unusable entries, then the entry; so many at the end -/
def gap : Nat → List CpInfo → List CpInfo
  | 0, r => r
  | n + 1, r => .unusable :: gap n r
def poolList (es : List (Nat × CpInfo)) (last : Nat) : List CpInfo := es.foldr (fun e r => gap e.1 (e.2 :: r)) (gap last [])
def pool (es : List (Nat × CpInfo)) (last : Nat) : Array CpInfo := ⟨poolList es last⟩
def fileOf (pool : Array CpInfo) (this : Nat) (attrs : Array Attribute := #[]) (ms : Array MethodInfo := #[]) (fl : Nat := 33) (sup : Nat := 0) (ifs : Array Nat := #[]) (fds : Array FieldInfo := #[]) : ClassFile where
  minorVersion := 0
  majorVersion := 65
  constantPool := pool
  accessFlags := fl
  thisClass := this
  superClass := sup
  interfaces := ifs
  fields := fds
  methods := ms
  attributes := attrs
def plain (name : String) (sup : Option ClassId) : Class where
  name := name
  kind := .ordinary
  loader := none
  accessFlags := 33
  super := sup
  interfaces := #[]
  cf := none
  fields := #[]
  methods := #[]
  instanceTypes := #[]
  staticTypes := #[]
  resolved := #[]
  callSites := []
  init := .initialized
  statics := none
  mirror := none

def pool0 : Array CpInfo := pool [(5, u "<init>"), (0, u "()V"), (1, .class_ 10), (1, u "java/lang/Object"), (85, u "clone"), (0, u "()Ljava/lang/Object;")] 26

def k0c0 : Code := { maxStack := 0, maxLocals := 1, code := object_method_1_code, exceptionTable := #[], attributes := #[] }
def k0m0 : Method := { name := "<init>", desc := "()V", sig := { parameters := [], returnType := none }, accessFlags := 1, code := some k0c0 }
def k0m1 : Method := { name := "clone", desc := "()Ljava/lang/Object;", sig := { parameters := [], returnType := some (.object "java/lang/Object") }, accessFlags := 260, code := none }
/-- java/lang/Object -/
def k0 : Class := { plain "java/lang/Object" none with
  accessFlags := 33
  interfaces := #[]
  cf := some (fileOf pool0 8 #[] #[{ accessFlags := 1, nameIndex := 5, descriptorIndex := 6, attributes := #[] }, { accessFlags := 260, nameIndex := 96, descriptorIndex := 97, attributes := #[] }] 33 0 #[] #[])
  fields := #[]
  methods := #[k0m0, k0m1]
  instanceTypes := #[]
  staticTypes := #[]
  resolved := Array.replicate 124 none
  statics := none }

def pool1 : Array CpInfo := pool [(2, .class_ 4), (1, u "java/lang/Object"), (0, u "<init>"), (0, u "()V"), (0, .class_ 8), (0, u "java/lang/String"), (0, .methodref 7 10), (0, .nameAndType 5 11), (0, u "([C)V"), (0, .long 7), (1, .long 127), (1, .methodref 17 18), (0, .class_ 19), (0, .nameAndType 20 21), (0, u "com/example/bundlewright/bundlewright/core/NameIsPinLaw"), (0, u "makeName"), (0, u "(ICCCC)Ljava/lang/String;"), (0, .class_ 23), (0, u "com/example/bundlewright/bundlewright/core/Name"), (0, .methodref 22 25), (0, .nameAndType 5 26), (0, u "(Ljava/lang/String;I)V"), (0, .methodref 22 28), (0, .nameAndType 29 30), (0, u "is"), (0, u "([BII)Z"), (3, u "law"), (0, u "(JJII)Z")] 4

def k1m0 : Method := { name := "<init>", desc := "()V", sig := { parameters := [], returnType := none }, accessFlags := 1, code := none }
def k1c1 : Code := { maxStack := 6, maxLocals := 5, code := method_2_code, exceptionTable := #[], attributes := #[] }
def k1m1 : Method := { name := "makeName", desc := "(ICCCC)Ljava/lang/String;", sig := { parameters := [.int, .char, .char, .char, .char], returnType := some (.object "java/lang/String") }, accessFlags := 10, code := some k1c1 }
def k1c2 : Code := { maxStack := 6, maxLocals := 18, code := code, exceptionTable := #[], attributes := #[] }
def k1m2 : Method := { name := "law", desc := "(JJII)Z", sig := { parameters := [.long, .long, .int, .int], returnType := some .boolean }, accessFlags := 9, code := some k1c2 }
/-- com/example/bundlewright/bundlewright/core/NameIsPinLaw -/
def k1 : Class := { plain "com/example/bundlewright/bundlewright/core/NameIsPinLaw" (some 0) with
  accessFlags := 49
  interfaces := #[]
  cf := some (fileOf pool1 17 #[] #[{ accessFlags := 1, nameIndex := 5, descriptorIndex := 6, attributes := #[] }, { accessFlags := 10, nameIndex := 20, descriptorIndex := 21, attributes := #[] }, { accessFlags := 9, nameIndex := 34, descriptorIndex := 35, attributes := #[] }] 49 2 #[] #[])
  fields := #[]
  methods := #[k1m0, k1m1, k1m2]
  instanceTypes := #[]
  staticTypes := #[]
  resolved := Array.replicate 40 none
  statics := none }

def pool2 : Array CpInfo := pool [(1, .class_ 2), (0, u "java/io/Serializable"), (0, .class_ 4), (0, u "java/lang/Object")] 2

/-- java/io/Serializable -/
def k2 : Class := { plain "java/io/Serializable" (some 0) with
  accessFlags := 1537
  interfaces := #[]
  cf := some (fileOf pool2 1 #[] #[] 1537 3 #[] #[])
  fields := #[]
  methods := #[]
  instanceTypes := #[]
  staticTypes := #[]
  resolved := Array.replicate 7 none
  statics := none }

def pool3 : Array CpInfo := pool [(1, .class_ 2), (0, u "java/lang/Comparable"), (0, .class_ 4), (0, u "java/lang/Object")] 7

/-- java/lang/Comparable -/
def k3 : Class := { plain "java/lang/Comparable" (some 0) with
  accessFlags := 1537
  interfaces := #[]
  cf := some (fileOf pool3 1 #[] #[] 1537 3 #[] #[])
  fields := #[]
  methods := #[]
  instanceTypes := #[]
  staticTypes := #[]
  resolved := Array.replicate 12 none
  statics := none }

def pool4 : Array CpInfo := pool [(2, .class_ 4), (1, u "java/lang/CharSequence"), (42, .class_ 48), (0, u "java/lang/CharSequence$1CodePointIterator"), (10, .class_ 60), (0, u "java/lang/CharSequence$1CharIterator"), (5, .class_ 67), (0, u "java/lang/Object")] 63

/-- java/lang/CharSequence -/
def k4 : Class := { plain "java/lang/CharSequence" (some 0) with
  accessFlags := 1537
  interfaces := #[]
  cf := some (fileOf pool4 2 #[.nestMembers #[47, 59]] #[] 1537 66 #[] #[])
  fields := #[]
  methods := #[]
  instanceTypes := #[]
  staticTypes := #[]
  resolved := Array.replicate 131 none
  statics := none }

def pool5 : Array CpInfo := pool [(1, .class_ 2), (0, u "java/lang/constant/Constable"), (0, .class_ 4), (0, u "java/lang/Object")] 6

/-- java/lang/constant/Constable -/
def k5 : Class := { plain "java/lang/constant/Constable" (some 0) with
  accessFlags := 1537
  interfaces := #[]
  cf := some (fileOf pool5 1 #[] #[] 1537 3 #[] #[])
  fields := #[]
  methods := #[]
  instanceTypes := #[]
  staticTypes := #[]
  resolved := Array.replicate 11 none
  statics := none }

def pool6 : Array CpInfo := pool [(1, .class_ 2), (0, u "java/lang/constant/ConstantDesc"), (0, .class_ 4), (0, u "java/lang/Object")] 32

/-- java/lang/constant/ConstantDesc -/
def k6 : Class := { plain "java/lang/constant/ConstantDesc" (some 0) with
  accessFlags := 1537
  interfaces := #[]
  cf := some (fileOf pool6 1 #[] #[] 1537 3 #[] #[])
  fields := #[]
  methods := #[]
  instanceTypes := #[]
  staticTypes := #[]
  resolved := Array.replicate 37 none
  statics := none }

def pool7 : Array CpInfo := pool [(1, .methodref 2 3), (0, .class_ 4), (0, .nameAndType 5 6), (0, u "java/lang/Object"), (0, u "<init>"), (0, u "()V"), (0, .string 8), (0, u ""), (0, .fieldref 10 11), (0, .class_ 12), (0, .nameAndType 13 14), (0, u "java/lang/String"), (0, u "value"), (0, u "[B"), (0, .fieldref 10 16), (0, .nameAndType 17 18), (0, u "coder"), (0, u "B"), (2, u "hash"), (0, u "I"), (2, u "hashIsZero"), (0, u "Z"), (0, .methodref 10 28), (0, .nameAndType 5 29), (0, u "([CIILjava/lang/Void;)V"), (8, .fieldref 10 39), (0, .nameAndType 40 26), (0, u "COMPACT_STRINGS"), (1, .class_ 44), (1, u "java/lang/StringUTF16"), (0, u "compress"), (1, .methodref 42 48), (0, .nameAndType 49 50), (0, u "coderFromArrayLen"), (0, u "([BI)B"), (35, .fieldref 87 88), (0, .class_ 89), (0, .nameAndType 90 91), (0, u "sun/nio/cs/UTF_8"), (0, u "INSTANCE"), (0, u "Lsun/nio/cs/UTF_8;"), (0, .methodref 93 94), (0, .class_ 95), (0, .nameAndType 96 97), (0, u "java/lang/StringCoding"), (0, u "countPositives"), (0, u "([BII)I"), (9, .class_ 109), (1, u "java/lang/StringLatin1"), (6, .fieldref 117 118), (0, .class_ 119), (0, .nameAndType 90 120), (0, u "sun/nio/cs/ISO_8859_1"), (0, u "Lsun/nio/cs/ISO_8859_1;"), (2, .fieldref 124 125), (0, .class_ 126), (0, .nameAndType 90 127), (0, u "sun/nio/cs/US_ASCII"), (0, u "Lsun/nio/cs/US_ASCII;"), (14, u "()Z"), (34, .methodref 42 178), (0, .nameAndType 45 179), (0, u "([CII)[B"), (31, u "([BB)V"), (47, u "(B[B)[B"), (0, .methodref 10 261), (0, .nameAndType 262 259), (0, u "encodeASCII"), (16, .methodref 280 281), (0, .class_ 14), (0, .nameAndType 282 283), (0, u "clone"), (0, u "()Ljava/lang/Object;"), (33, u "encode"), (16, u "()I"), (0, .methodref 10 336), (0, .nameAndType 17 337), (0, u "()B"), (25, u "([BI)C"), (27, u "(II)V"), (35, u "(I)C"), (64, .methodref 10 493), (0, .nameAndType 494 142), (0, u "isLatin1"), (0, .methodref 107 496), (0, .nameAndType 497 363), (0, u "charAt"), (3, u "checkIndex"), (3, .methodref 10 506), (0, .nameAndType 507 334), (0, u "length"), (5, u "checkFromToIndex"), (7, .methodref 10 522), (0, .nameAndType 523 524), (0, u "checkBoundsBeginEnd"), (0, u "(III)V"), (7, u "getBytes"), (2, .methodref 10 536), (0, .nameAndType 317 537), (0, u "(Ljava/nio/charset/Charset;B[B)[B"), (3, .methodref 107 542), (0, .nameAndType 543 544), (0, u "equals"), (0, u "([B[B)Z"), (28, u "(Ljava/lang/Object;)Z"), (1, .class_ 576), (0, u "java/lang/CharSequence"), (22, u "CASE_INSENSITIVE_ORDER"), (0, u "Ljava/util/Comparator;"), (32, .methodref 10 634), (0, .nameAndType 635 636), (0, u "indexOf"), (0, u "(II)I"), (0, .methodref 107 638), (0, .nameAndType 635 639), (0, u "([BIII)I"), (41, .methodref 10 682), (0, .nameAndType 683 684), (0, u "substring"), (0, u "(II)Ljava/lang/String;"), (0, .methodref 107 686), (0, .nameAndType 687 688), (0, u "newString"), (0, u "([BII)Ljava/lang/String;"), (76, u "(I)I"), (126, u "(I)Ljava/lang/String;"), (117, u "([C)V"), (42, .fieldref 1054 1055), (0, .class_ 1056), (0, .nameAndType 1057 1058), (0, u "jdk/internal/util/Preconditions"), (0, u "SIOOBE_FORMATTER"), (0, u "Ljava/util/function/BiFunction;"), (0, .methodref 1054 1060), (0, .nameAndType 501 1061), (0, u "(IILjava/util/function/BiFunction;)I"), (0, .methodref 1054 1063), (0, .nameAndType 513 1064), (0, u "(IIILjava/util/function/BiFunction;)I"), (36, u "serialPersistentFields"), (0, u "[Ljava/io/ObjectStreamField;"), (0, .class_ 1104), (0, u "java/lang/String$CaseInsensitiveComparator"), (1, .class_ 1107), (0, u "java/io/Serializable"), (0, .class_ 1109), (0, u "java/lang/Comparable"), (0, .class_ 1111), (0, u "java/lang/constant/Constable"), (0, .class_ 1113), (0, u "java/lang/constant/ConstantDesc"), (2, u "serialVersionUID"), (0, u "J"), (3, u "REPL"), (0, u "C"), (2, u "LATIN1"), (1, u "UTF16"), (117, u "(Ljava/nio/charset/Charset;)[B")] 205

def k7m0 : Method := { name := "<init>", desc := "()V", sig := { parameters := [], returnType := none }, accessFlags := 1, code := none }
def k7c1 : Code := { maxStack := 5, maxLocals := 2, code := jdk_42_method_3_code, exceptionTable := #[], attributes := #[] }
def k7m1 : Method := { name := "<init>", desc := "([C)V", sig := { parameters := [(.array .char)], returnType := none }, accessFlags := 1, code := some k7c1 }
def k7c2 : Code := { maxStack := 4, maxLocals := 3, code := jdk_42_method_18_code, exceptionTable := #[], attributes := #[] }
def k7m2 : Method := { name := "encode", desc := "(Ljava/nio/charset/Charset;B[B)[B", sig := { parameters := [(.object "java/nio/charset/Charset"), .byte, (.array .byte)], returnType := some (.array .byte) }, accessFlags := 10, code := some k7c2 }
def k7c3 : Code := { maxStack := 3, maxLocals := 7, code := jdk_42_method_24_code, exceptionTable := #[], attributes := #[] }
def k7m3 : Method := { name := "encodeASCII", desc := "(B[B)[B", sig := { parameters := [.byte, (.array .byte)], returnType := some (.array .byte) }, accessFlags := 10, code := some k7c3 }
def k7c4 : Code := { maxStack := 2, maxLocals := 1, code := jdk_42_method_54_code, exceptionTable := #[], attributes := #[] }
def k7m4 : Method := { name := "length", desc := "()I", sig := { parameters := [], returnType := some .int }, accessFlags := 1, code := some k7c4 }
def k7c5 : Code := { maxStack := 2, maxLocals := 2, code := jdk_42_method_56_code, exceptionTable := #[], attributes := #[] }
def k7m5 : Method := { name := "charAt", desc := "(I)C", sig := { parameters := [.int], returnType := some .char }, accessFlags := 1, code := some k7c5 }
def k7c6 : Code := { maxStack := 3, maxLocals := 2, code := jdk_42_method_64_code, exceptionTable := #[], attributes := #[] }
def k7m6 : Method := { name := "getBytes", desc := "(Ljava/nio/charset/Charset;)[B", sig := { parameters := [(.object "java/nio/charset/Charset")], returnType := some (.array .byte) }, accessFlags := 1, code := some k7c6 }
def k7c7 : Code := { maxStack := 2, maxLocals := 3, code := jdk_42_method_66_code, exceptionTable := #[], attributes := #[] }
def k7m7 : Method := { name := "equals", desc := "(Ljava/lang/Object;)Z", sig := { parameters := [(.object "java/lang/Object")], returnType := some .boolean }, accessFlags := 1, code := some k7c7 }
def k7c8 : Code := { maxStack := 3, maxLocals := 2, code := jdk_42_method_79_code, exceptionTable := #[], attributes := #[] }
def k7m8 : Method := { name := "indexOf", desc := "(I)I", sig := { parameters := [.int], returnType := some .int }, accessFlags := 1, code := some k7c8 }
def k7c9 : Code := { maxStack := 4, maxLocals := 3, code := jdk_42_method_80_code, exceptionTable := #[], attributes := #[] }
def k7m9 : Method := { name := "indexOf", desc := "(II)I", sig := { parameters := [.int, .int], returnType := some .int }, accessFlags := 1, code := some k7c9 }
def k7c10 : Code := { maxStack := 3, maxLocals := 2, code := jdk_42_method_91_code, exceptionTable := #[], attributes := #[] }
def k7m10 : Method := { name := "substring", desc := "(I)Ljava/lang/String;", sig := { parameters := [.int], returnType := some (.object "java/lang/String") }, accessFlags := 1, code := some k7c10 }
def k7c11 : Code := { maxStack := 3, maxLocals := 5, code := jdk_42_method_92_code, exceptionTable := #[], attributes := #[] }
def k7m11 : Method := { name := "substring", desc := "(II)Ljava/lang/String;", sig := { parameters := [.int, .int], returnType := some (.object "java/lang/String") }, accessFlags := 1, code := some k7c11 }
def k7c12 : Code := { maxStack := 4, maxLocals := 6, code := jdk_42_method_149_code, exceptionTable := #[], attributes := #[] }
def k7m12 : Method := { name := "<init>", desc := "([CIILjava/lang/Void;)V", sig := { parameters := [(.array .char), .int, .int, (.object "java/lang/Void")], returnType := none }, accessFlags := 2, code := some k7c12 }
def k7c13 : Code := { maxStack := 2, maxLocals := 3, code := jdk_42_method_151_code, exceptionTable := #[], attributes := #[] }
def k7m13 : Method := { name := "<init>", desc := "([BB)V", sig := { parameters := [(.array .byte), .byte], returnType := none }, accessFlags := 0, code := some k7c13 }
def k7c14 : Code := { maxStack := 1, maxLocals := 1, code := jdk_42_method_152_code, exceptionTable := #[], attributes := #[] }
def k7m14 : Method := { name := "coder", desc := "()B", sig := { parameters := [], returnType := some .byte }, accessFlags := 0, code := some k7c14 }
def k7c15 : Code := { maxStack := 1, maxLocals := 1, code := jdk_42_method_154_code, exceptionTable := #[], attributes := #[] }
def k7m15 : Method := { name := "isLatin1", desc := "()Z", sig := { parameters := [], returnType := some .boolean }, accessFlags := 0, code := some k7c15 }
def k7c16 : Code := { maxStack := 3, maxLocals := 2, code := jdk_42_method_155_code, exceptionTable := #[], attributes := #[] }
def k7m16 : Method := { name := "checkIndex", desc := "(II)V", sig := { parameters := [.int, .int], returnType := none }, accessFlags := 8, code := some k7c16 }
def k7c17 : Code := { maxStack := 4, maxLocals := 3, code := jdk_42_method_158_code, exceptionTable := #[], attributes := #[] }
def k7m17 : Method := { name := "checkBoundsBeginEnd", desc := "(III)V", sig := { parameters := [.int, .int, .int], returnType := none }, accessFlags := 8, code := some k7c17 }
/-- java/lang/String -/
def k7 : Class := { plain "java/lang/String" (some 0) with
  accessFlags := 49
  interfaces := #[2, 3, 4, 5, 6]
  cf := some (fileOf pool7 10 #[.nestMembers #[1103]] #[{ accessFlags := 1, nameIndex := 5, descriptorIndex := 6, attributes := #[] }, { accessFlags := 1, nameIndex := 5, descriptorIndex := 1010, attributes := #[] }, { accessFlags := 10, nameIndex := 317, descriptorIndex := 537, attributes := #[] }, { accessFlags := 10, nameIndex := 262, descriptorIndex := 259, attributes := #[] }, { accessFlags := 1, nameIndex := 507, descriptorIndex := 334, attributes := #[] }, { accessFlags := 1, nameIndex := 497, descriptorIndex := 427, attributes := #[] }, { accessFlags := 1, nameIndex := 532, descriptorIndex := 1245, attributes := #[] }, { accessFlags := 1, nameIndex := 543, descriptorIndex := 573, attributes := #[] }, { accessFlags := 1, nameIndex := 635, descriptorIndex := 765, attributes := #[] }, { accessFlags := 1, nameIndex := 635, descriptorIndex := 636, attributes := #[] }, { accessFlags := 1, nameIndex := 683, descriptorIndex := 892, attributes := #[] }, { accessFlags := 1, nameIndex := 683, descriptorIndex := 684, attributes := #[] }, { accessFlags := 2, nameIndex := 5, descriptorIndex := 29, attributes := #[] }, { accessFlags := 0, nameIndex := 5, descriptorIndex := 211, attributes := #[] }, { accessFlags := 0, nameIndex := 17, descriptorIndex := 337, attributes := #[] }, { accessFlags := 0, nameIndex := 494, descriptorIndex := 142, attributes := #[] }, { accessFlags := 8, nameIndex := 501, descriptorIndex := 391, attributes := #[] }, { accessFlags := 8, nameIndex := 523, descriptorIndex := 524, attributes := #[] }] 49 2 #[1106, 1108, 575, 1110, 1112] #[{ accessFlags := 18, nameIndex := 13, descriptorIndex := 14, attributes := #[] }, { accessFlags := 18, nameIndex := 17, descriptorIndex := 18, attributes := #[] }, { accessFlags := 2, nameIndex := 21, descriptorIndex := 22, attributes := #[] }, { accessFlags := 2, nameIndex := 25, descriptorIndex := 26, attributes := #[] }, { accessFlags := 26, nameIndex := 1116, descriptorIndex := 1117, attributes := #[] }, { accessFlags := 24, nameIndex := 40, descriptorIndex := 26, attributes := #[] }, { accessFlags := 26, nameIndex := 1101, descriptorIndex := 1102, attributes := #[] }, { accessFlags := 26, nameIndex := 1121, descriptorIndex := 1122, attributes := #[] }, { accessFlags := 25, nameIndex := 599, descriptorIndex := 600, attributes := #[] }, { accessFlags := 24, nameIndex := 1125, descriptorIndex := 18, attributes := #[] }, { accessFlags := 24, nameIndex := 1127, descriptorIndex := 18, attributes := #[] }])
  fields := #[{ name := "value", type := (.array .byte), accessFlags := 18, slot := 0, constantValue := 0 }, { name := "coder", type := .byte, accessFlags := 18, slot := 1, constantValue := 0 }, { name := "hash", type := .int, accessFlags := 2, slot := 2, constantValue := 0 }, { name := "hashIsZero", type := .boolean, accessFlags := 2, slot := 3, constantValue := 0 }, { name := "serialVersionUID", type := .long, accessFlags := 26, slot := 0, constantValue := 0 }, { name := "COMPACT_STRINGS", type := .boolean, accessFlags := 24, slot := 1, constantValue := 0 }, { name := "serialPersistentFields", type := (.array (.object "java/io/ObjectStreamField")), accessFlags := 26, slot := 2, constantValue := 0 }, { name := "REPL", type := .char, accessFlags := 26, slot := 3, constantValue := 0 }, { name := "CASE_INSENSITIVE_ORDER", type := (.object "java/util/Comparator"), accessFlags := 25, slot := 4, constantValue := 0 }, { name := "LATIN1", type := .byte, accessFlags := 24, slot := 5, constantValue := 0 }, { name := "UTF16", type := .byte, accessFlags := 24, slot := 6, constantValue := 0 }]
  methods := #[k7m0, k7m1, k7m2, k7m3, k7m4, k7m5, k7m6, k7m7, k7m8, k7m9, k7m10, k7m11, k7m12, k7m13, k7m14, k7m15, k7m16, k7m17]
  instanceTypes := #[(.array .byte), .byte, .int, .boolean]
  staticTypes := #[.long, .boolean, (.array (.object "java/io/ObjectStreamField")), .char, (.object "java/util/Comparator"), .byte, .byte]
  resolved := Array.replicate 1451 none
  statics := some 0 }

def pool8 : Array CpInfo := pool [(1, .methodref 2 3), (0, .class_ 4), (0, .nameAndType 5 6), (0, u "java/lang/Object"), (0, u "<init>"), (0, u "()V"), (0, .fieldref 8 9), (0, .class_ 10), (0, .nameAndType 11 12), (0, u "com/example/bundlewright/bundlewright/core/Name"), (0, u "written"), (0, u "Ljava/lang/String;"), (0, .fieldref 14 15), (0, .class_ 16), (0, .nameAndType 17 18), (0, u "java/nio/charset/StandardCharsets"), (0, u "US_ASCII"), (0, u "Ljava/nio/charset/Charset;"), (0, .methodref 20 21), (0, .class_ 22), (0, .nameAndType 23 24), (0, u "java/lang/String"), (0, u "getBytes"), (0, u "(Ljava/nio/charset/Charset;)[B"), (0, .fieldref 8 26), (0, .nameAndType 27 28), (0, u "ascii"), (0, u "[B"), (0, .fieldref 8 30), (0, .nameAndType 31 32), (0, u "hash"), (0, u "I"), (0, .methodref 20 34), (0, .nameAndType 35 36), (0, u "indexOf"), (0, u "(I)I"), (0, .methodref 20 38), (0, .nameAndType 39 40), (0, u "length"), (0, u "()I"), (0, .methodref 20 42), (0, .nameAndType 35 43), (0, u "(II)I"), (0, .methodref 20 45), (0, .nameAndType 46 47), (0, u "charAt"), (0, u "(I)C"), (0, .methodref 8 49), (0, .nameAndType 50 51), (0, u "isNameStart"), (0, u "(I)Z"), (0, .fieldref 8 53), (0, .nameAndType 54 55), (0, u "qualified"), (0, u "Z"), (0, .string 57), (0, u ""), (0, .methodref 20 59), (0, .nameAndType 60 61), (0, u "substring"), (0, u "(II)Ljava/lang/String;"), (0, .fieldref 8 63), (0, .nameAndType 64 12), (0, u "prefix"), (0, .methodref 20 66), (0, .nameAndType 60 67), (0, u "(I)Ljava/lang/String;"), (0, .fieldref 8 69), (0, .nameAndType 70 12), (0, u "local"), (2, .string 74), (0, u "xmlns"), (0, .methodref 20 76), (0, .nameAndType 77 78), (0, u "equals"), (0, u "(Ljava/lang/Object;)Z"), (0, .fieldref 8 80), (0, .nameAndType 81 12), (0, u "declared"), (0, .string 83), (0, u "xml"), (0, .fieldref 8 85), (0, .nameAndType 86 55), (0, u "reservedPrefix"), (0, .fieldref 8 88), (0, .nameAndType 89 28), (0, u "KIND"), (2, u "counted"), (0, u "J"), (0, u "NAME_START"), (2, u "NAME_CHARACTER"), (1, u "(Ljava/lang/String;I)V"), (8, u "is"), (0, u "([BII)Z")] 4

def k8c0 : Code := { maxStack := 5, maxLocals := 4, code := prog_31_method_1_code, exceptionTable := #[], attributes := #[] }
def k8m0 : Method := { name := "<init>", desc := "(Ljava/lang/String;I)V", sig := { parameters := [(.object "java/lang/String"), .int], returnType := none }, accessFlags := 0, code := some k8c0 }
def k8c1 : Code := { maxStack := 2, maxLocals := 1, code := prog_31_method_2_code, exceptionTable := #[], attributes := #[] }
def k8m1 : Method := { name := "isNameStart", desc := "(I)Z", sig := { parameters := [.int], returnType := some .boolean }, accessFlags := 8, code := some k8c1 }
def k8c2 : Code := { maxStack := 3, maxLocals := 6, code := prog_31_method_12_code, exceptionTable := #[], attributes := #[] }
def k8m2 : Method := { name := "is", desc := "([BII)Z", sig := { parameters := [(.array .byte), .int, .int], returnType := some .boolean }, accessFlags := 0, code := some k8c2 }
/-- com/example/bundlewright/bundlewright/core/Name -/
def k8 : Class := { plain "com/example/bundlewright/bundlewright/core/Name" (some 0) with
  accessFlags := 48
  interfaces := #[]
  cf := some (fileOf pool8 8 #[] #[{ accessFlags := 0, nameIndex := 5, descriptorIndex := 99, attributes := #[] }, { accessFlags := 8, nameIndex := 50, descriptorIndex := 51, attributes := #[] }, { accessFlags := 0, nameIndex := 108, descriptorIndex := 109, attributes := #[] }] 48 2 #[] #[{ accessFlags := 26, nameIndex := 89, descriptorIndex := 28, attributes := #[] }, { accessFlags := 26, nameIndex := 94, descriptorIndex := 32, attributes := #[] }, { accessFlags := 26, nameIndex := 97, descriptorIndex := 32, attributes := #[] }, { accessFlags := 18, nameIndex := 11, descriptorIndex := 12, attributes := #[] }, { accessFlags := 18, nameIndex := 27, descriptorIndex := 28, attributes := #[] }, { accessFlags := 18, nameIndex := 31, descriptorIndex := 32, attributes := #[] }, { accessFlags := 18, nameIndex := 54, descriptorIndex := 55, attributes := #[] }, { accessFlags := 18, nameIndex := 64, descriptorIndex := 12, attributes := #[] }, { accessFlags := 18, nameIndex := 70, descriptorIndex := 12, attributes := #[] }, { accessFlags := 18, nameIndex := 81, descriptorIndex := 12, attributes := #[] }, { accessFlags := 18, nameIndex := 86, descriptorIndex := 55, attributes := #[] }, { accessFlags := 2, nameIndex := 92, descriptorIndex := 93, attributes := #[] }])
  fields := #[{ name := "KIND", type := (.array .byte), accessFlags := 26, slot := 0, constantValue := 0 }, { name := "NAME_START", type := .int, accessFlags := 26, slot := 1, constantValue := 0 }, { name := "NAME_CHARACTER", type := .int, accessFlags := 26, slot := 2, constantValue := 0 }, { name := "written", type := (.object "java/lang/String"), accessFlags := 18, slot := 0, constantValue := 0 }, { name := "ascii", type := (.array .byte), accessFlags := 18, slot := 1, constantValue := 0 }, { name := "hash", type := .int, accessFlags := 18, slot := 2, constantValue := 0 }, { name := "qualified", type := .boolean, accessFlags := 18, slot := 3, constantValue := 0 }, { name := "prefix", type := (.object "java/lang/String"), accessFlags := 18, slot := 4, constantValue := 0 }, { name := "local", type := (.object "java/lang/String"), accessFlags := 18, slot := 5, constantValue := 0 }, { name := "declared", type := (.object "java/lang/String"), accessFlags := 18, slot := 6, constantValue := 0 }, { name := "reservedPrefix", type := .boolean, accessFlags := 18, slot := 7, constantValue := 0 }, { name := "counted", type := .long, accessFlags := 2, slot := 8, constantValue := 0 }]
  methods := #[k8m0, k8m1, k8m2]
  instanceTypes := #[(.object "java/lang/String"), (.array .byte), .int, .boolean, (.object "java/lang/String"), (.object "java/lang/String"), (.object "java/lang/String"), .boolean, .long]
  staticTypes := #[(.array .byte), .int, .int]
  resolved := Array.replicate 114 none
  statics := some 1 }

def pool9 : Array CpInfo := pool [(2, .class_ 4), (1, u "java/lang/Object"), (0, u "<init>"), (0, u "()V"), (14, .class_ 23), (1, u "java/nio/charset/StandardCharsets"), (0, u "US_ASCII"), (0, u "Ljava/nio/charset/Charset;"), (7, u "ISO_8859_1"), (7, u "UTF_8"), (5, u "UTF_16BE"), (5, u "UTF_16LE"), (5, u "UTF_16")] 8

def k9m0 : Method := { name := "<init>", desc := "()V", sig := { parameters := [], returnType := none }, accessFlags := 2, code := none }
/-- java/nio/charset/StandardCharsets -/
def k9 : Class := { plain "java/nio/charset/StandardCharsets" (some 0) with
  accessFlags := 49
  interfaces := #[]
  cf := some (fileOf pool9 21 #[] #[{ accessFlags := 2, nameIndex := 5, descriptorIndex := 6, attributes := #[] }] 49 2 #[] #[{ accessFlags := 25, nameIndex := 24, descriptorIndex := 25, attributes := #[] }, { accessFlags := 25, nameIndex := 33, descriptorIndex := 25, attributes := #[] }, { accessFlags := 25, nameIndex := 41, descriptorIndex := 25, attributes := #[] }, { accessFlags := 25, nameIndex := 47, descriptorIndex := 25, attributes := #[] }, { accessFlags := 25, nameIndex := 53, descriptorIndex := 25, attributes := #[] }, { accessFlags := 25, nameIndex := 59, descriptorIndex := 25, attributes := #[] }])
  fields := #[{ name := "US_ASCII", type := (.object "java/nio/charset/Charset"), accessFlags := 25, slot := 0, constantValue := 0 }, { name := "ISO_8859_1", type := (.object "java/nio/charset/Charset"), accessFlags := 25, slot := 1, constantValue := 0 }, { name := "UTF_8", type := (.object "java/nio/charset/Charset"), accessFlags := 25, slot := 2, constantValue := 0 }, { name := "UTF_16BE", type := (.object "java/nio/charset/Charset"), accessFlags := 25, slot := 3, constantValue := 0 }, { name := "UTF_16LE", type := (.object "java/nio/charset/Charset"), accessFlags := 25, slot := 4, constantValue := 0 }, { name := "UTF_16", type := (.object "java/nio/charset/Charset"), accessFlags := 25, slot := 5, constantValue := 0 }]
  methods := #[k9m0]
  instanceTypes := #[]
  staticTypes := #[(.object "java/nio/charset/Charset"), (.object "java/nio/charset/Charset"), (.object "java/nio/charset/Charset"), (.object "java/nio/charset/Charset"), (.object "java/nio/charset/Charset"), (.object "java/nio/charset/Charset")]
  resolved := Array.replicate 68 none
  statics := some 2 }

def pool10 : Array CpInfo := pool [(18, .class_ 20), (1, u "java/nio/charset/Charset"), (0, u "cache1"), (0, u "[Ljava/lang/Object;"), (2, u "cache2"), (0, .class_ 27), (0, u "java/lang/Object"), (0, .class_ 29), (0, u "java/nio/charset/Charset$1"), (4, .class_ 36), (1, u "java/nio/charset/Charset$ThreadTrackHolder"), (21, .class_ 59), (0, u "java/nio/charset/Charset$2"), (11, .class_ 73), (1, u "java/nio/charset/Charset$ExtendedProviderHolder"), (22, u "standardProvider"), (0, u "Ljava/nio/charset/spi/CharsetProvider;"), (29, u "name"), (7, .class_ 136), (0, u "java/nio/charset/Charset$3"), (5, u "defaultCharset"), (0, u "Ljava/nio/charset/Charset;"), (14, u "zeroAliases"), (0, u "[Ljava/lang/String;"), (29, u "Ljava/lang/String;"), (2, u "aliases"), (2, u "aliasSet"), (0, u "Ljava/util/Set;"), (82, .class_ 280), (0, u "java/lang/Comparable"), (84, .class_ 366), (0, u "java/nio/charset/Charset$ExtendedProviderHolder$1")] 3

/-- java/nio/charset/Charset -/
def k10 : Class := { plain "java/nio/charset/Charset" (some 0) with
  accessFlags := 1057
  interfaces := #[3]
  cf := some (fileOf pool10 18 #[.nestMembers #[71, 365, 34, 135, 58, 28]] #[] 1057 26 #[279] #[{ accessFlags := 26, nameIndex := 96, descriptorIndex := 97, attributes := #[] }, { accessFlags := 26, nameIndex := 158, descriptorIndex := 159, attributes := #[] }, { accessFlags := 74, nameIndex := 21, descriptorIndex := 22, attributes := #[] }, { accessFlags := 74, nameIndex := 25, descriptorIndex := 22, attributes := #[] }, { accessFlags := 10, nameIndex := 142, descriptorIndex := 143, attributes := #[] }, { accessFlags := 18, nameIndex := 127, descriptorIndex := 189, attributes := #[] }, { accessFlags := 18, nameIndex := 192, descriptorIndex := 159, attributes := #[] }, { accessFlags := 2, nameIndex := 195, descriptorIndex := 196, attributes := #[] }])
  fields := #[{ name := "standardProvider", type := (.object "java/nio/charset/spi/CharsetProvider"), accessFlags := 26, slot := 0, constantValue := 0 }, { name := "zeroAliases", type := (.array (.object "java/lang/String")), accessFlags := 26, slot := 1, constantValue := 0 }, { name := "cache1", type := (.array (.object "java/lang/Object")), accessFlags := 74, slot := 2, constantValue := 0 }, { name := "cache2", type := (.array (.object "java/lang/Object")), accessFlags := 74, slot := 3, constantValue := 0 }, { name := "defaultCharset", type := (.object "java/nio/charset/Charset"), accessFlags := 10, slot := 4, constantValue := 0 }, { name := "name", type := (.object "java/lang/String"), accessFlags := 18, slot := 0, constantValue := 0 }, { name := "aliases", type := (.array (.object "java/lang/String")), accessFlags := 18, slot := 1, constantValue := 0 }, { name := "aliasSet", type := (.object "java/util/Set"), accessFlags := 2, slot := 2, constantValue := 0 }]
  methods := #[]
  instanceTypes := #[(.object "java/lang/String"), (.array (.object "java/lang/String")), (.object "java/util/Set")]
  staticTypes := #[(.object "java/nio/charset/spi/CharsetProvider"), (.array (.object "java/lang/String")), (.array (.object "java/lang/Object")), (.array (.object "java/lang/Object")), (.object "java/nio/charset/Charset")]
  resolved := Array.replicate 370 none
  statics := none }

def pool11 : Array CpInfo := pool [(1, .class_ 2), (0, u "sun/nio/cs/HistoricallyNamedCharset"), (0, .class_ 4), (0, u "java/lang/Object")] 4

/-- sun/nio/cs/HistoricallyNamedCharset -/
def k11 : Class := { plain "sun/nio/cs/HistoricallyNamedCharset" (some 0) with
  accessFlags := 1537
  interfaces := #[]
  cf := some (fileOf pool11 1 #[] #[] 1537 3 #[] #[])
  fields := #[]
  methods := #[]
  instanceTypes := #[]
  staticTypes := #[]
  resolved := Array.replicate 9 none
  statics := none }

def pool12 : Array CpInfo := pool [(2, .class_ 4), (1, u "java/nio/charset/Charset"), (130, .class_ 136), (0, u "sun/nio/cs/Unicode"), (0, .class_ 138), (0, u "sun/nio/cs/HistoricallyNamedCharset")] 15

/-- sun/nio/cs/Unicode -/
def k12 : Class := { plain "sun/nio/cs/Unicode" (some 10) with
  accessFlags := 1056
  interfaces := #[11]
  cf := some (fileOf pool12 135 #[] #[] 1056 2 #[137] #[])
  fields := #[]
  methods := #[]
  instanceTypes := #[(.object "java/lang/String"), (.array (.object "java/lang/String")), (.object "java/util/Set")]
  staticTypes := #[]
  resolved := Array.replicate 154 none
  statics := none }

def pool13 : Array CpInfo := pool [(10, .class_ 12), (1, u "sun/nio/cs/Unicode"), (0, u "<init>"), (3, .class_ 18), (0, u "sun/nio/cs/UTF_8$Decoder"), (3, .class_ 23), (0, u "sun/nio/cs/UTF_8$Encoder"), (15, .class_ 40), (0, u "sun/nio/cs/UTF_8"), (2, u "()V"), (2, u "INSTANCE"), (0, u "Lsun/nio/cs/UTF_8;"), (8, u "JLA"), (0, u "Ljdk/internal/access/JavaLangAccess;")] 26

def k13m0 : Method := { name := "<init>", desc := "()V", sig := { parameters := [], returnType := none }, accessFlags := 1, code := none }
/-- sun/nio/cs/UTF_8 -/
def k13 : Class := { plain "sun/nio/cs/UTF_8" (some 12) with
  accessFlags := 49
  interfaces := #[]
  cf := some (fileOf pool13 39 #[.nestMembers #[22, 17]] #[{ accessFlags := 1, nameIndex := 13, descriptorIndex := 43, attributes := #[] }] 49 10 #[] #[{ accessFlags := 25, nameIndex := 46, descriptorIndex := 47, attributes := #[] }, { accessFlags := 26, nameIndex := 56, descriptorIndex := 57, attributes := #[] }])
  fields := #[{ name := "INSTANCE", type := (.object "sun/nio/cs/UTF_8"), accessFlags := 25, slot := 0, constantValue := 0 }, { name := "JLA", type := (.object "jdk/internal/access/JavaLangAccess"), accessFlags := 26, slot := 1, constantValue := 0 }]
  methods := #[k13m0]
  instanceTypes := #[(.object "java/lang/String"), (.array (.object "java/lang/String")), (.object "java/util/Set")]
  staticTypes := #[(.object "sun/nio/cs/UTF_8"), (.object "jdk/internal/access/JavaLangAccess")]
  resolved := Array.replicate 84 none
  statics := some 3 }

def pool14 : Array CpInfo := pool [(10, .class_ 12), (1, u "java/nio/charset/Charset"), (0, u "<init>"), (5, .class_ 20), (0, u "sun/nio/cs/ISO_8859_1"), (0, .class_ 22), (0, u "sun/nio/cs/ISO_8859_1$Decoder"), (3, .class_ 27), (0, u "sun/nio/cs/ISO_8859_1$Encoder"), (3, u "()V"), (2, u "INSTANCE"), (0, u "Lsun/nio/cs/ISO_8859_1;"), (0, .class_ 37), (0, u "sun/nio/cs/HistoricallyNamedCharset")] 22

def k14m0 : Method := { name := "<init>", desc := "()V", sig := { parameters := [], returnType := none }, accessFlags := 1, code := none }
/-- sun/nio/cs/ISO_8859_1 -/
def k14 : Class := { plain "sun/nio/cs/ISO_8859_1" (some 10) with
  accessFlags := 33
  interfaces := #[11]
  cf := some (fileOf pool14 19 #[.nestMembers #[26, 21]] #[{ accessFlags := 1, nameIndex := 13, descriptorIndex := 31, attributes := #[] }] 33 10 #[36] #[{ accessFlags := 25, nameIndex := 34, descriptorIndex := 35, attributes := #[] }])
  fields := #[{ name := "INSTANCE", type := (.object "sun/nio/cs/ISO_8859_1"), accessFlags := 25, slot := 0, constantValue := 0 }]
  methods := #[k14m0]
  instanceTypes := #[(.object "java/lang/String"), (.array (.object "java/lang/String")), (.object "java/util/Set")]
  staticTypes := #[(.object "sun/nio/cs/ISO_8859_1")]
  resolved := Array.replicate 60 none
  statics := some 4 }

def pool15 : Array CpInfo := pool [(10, .class_ 12), (1, u "java/nio/charset/Charset"), (0, u "<init>"), (3, .class_ 18), (0, u "sun/nio/cs/US_ASCII"), (0, .class_ 20), (0, u "sun/nio/cs/US_ASCII$Decoder"), (3, .class_ 25), (0, u "sun/nio/cs/US_ASCII$Encoder"), (3, u "()V"), (2, u "INSTANCE"), (0, u "Lsun/nio/cs/US_ASCII;"), (8, u "JLA"), (0, u "Ljdk/internal/access/JavaLangAccess;"), (0, .class_ 45), (0, u "sun/nio/cs/HistoricallyNamedCharset")] 21

def k15m0 : Method := { name := "<init>", desc := "()V", sig := { parameters := [], returnType := none }, accessFlags := 1, code := none }
/-- sun/nio/cs/US_ASCII -/
def k15 : Class := { plain "sun/nio/cs/US_ASCII" (some 10) with
  accessFlags := 33
  interfaces := #[11]
  cf := some (fileOf pool15 17 #[.nestMembers #[24, 19]] #[{ accessFlags := 1, nameIndex := 13, descriptorIndex := 29, attributes := #[] }] 33 10 #[44] #[{ accessFlags := 25, nameIndex := 32, descriptorIndex := 33, attributes := #[] }, { accessFlags := 26, nameIndex := 42, descriptorIndex := 43, attributes := #[] }])
  fields := #[{ name := "INSTANCE", type := (.object "sun/nio/cs/US_ASCII"), accessFlags := 25, slot := 0, constantValue := 0 }, { name := "JLA", type := (.object "jdk/internal/access/JavaLangAccess"), accessFlags := 26, slot := 1, constantValue := 0 }]
  methods := #[k15m0]
  instanceTypes := #[(.object "java/lang/String"), (.array (.object "java/lang/String")), (.object "java/util/Set")]
  staticTypes := #[(.object "sun/nio/cs/US_ASCII"), (.object "jdk/internal/access/JavaLangAccess")]
  resolved := Array.replicate 67 none
  statics := some 5 }

def pool16 : Array CpInfo := pool [(2, .class_ 4), (1, u "java/lang/Object"), (0, u "<init>"), (0, u "()V"), (1, .class_ 10), (1, u "java/lang/StringCoding"), (0, u "countPositives"), (0, u "([BII)I")] 36

def k16m0 : Method := { name := "<init>", desc := "()V", sig := { parameters := [], returnType := none }, accessFlags := 2, code := none }
def k16c1 : Code := { maxStack := 2, maxLocals := 5, code := jdk_123_method_3_code, exceptionTable := #[], attributes := #[] }
def k16m1 : Method := { name := "countPositives", desc := "([BII)I", sig := { parameters := [(.array .byte), .int, .int], returnType := some .int }, accessFlags := 9, code := some k16c1 }
/-- java/lang/StringCoding -/
def k16 : Class := { plain "java/lang/StringCoding" (some 0) with
  accessFlags := 32
  interfaces := #[]
  cf := some (fileOf pool16 8 #[] #[{ accessFlags := 2, nameIndex := 5, descriptorIndex := 6, attributes := #[] }, { accessFlags := 9, nameIndex := 11, descriptorIndex := 12, attributes := #[] }] 32 2 #[] #[])
  fields := #[]
  methods := #[k16m0, k16m1]
  instanceTypes := #[]
  staticTypes := #[]
  resolved := Array.replicate 49 none
  statics := none }

def pool17 : Array CpInfo := pool [(1, .class_ 2), (0, u "java/lang/Cloneable"), (0, .class_ 4), (0, u "java/lang/Object")] 2

/-- java/lang/Cloneable -/
def k17 : Class := { plain "java/lang/Cloneable" (some 0) with
  accessFlags := 1537
  interfaces := #[]
  cf := some (fileOf pool17 1 #[] #[] 1537 3 #[] #[])
  fields := #[]
  methods := #[]
  instanceTypes := #[]
  staticTypes := #[]
  resolved := Array.replicate 7 none
  statics := none }

def pool18 : Array CpInfo := pool [(1, .class_ 2), (0, u "java/lang/String"), (1, .class_ 6), (1, u "java/lang/Object"), (0, u "<init>"), (0, u "()V"), (0, .methodref 1 10), (0, .nameAndType 11 12), (0, u "checkIndex"), (0, u "(II)V"), (1, .class_ 16), (1, u "java/lang/StringLatin1"), (21, .methodref 39 40), (0, .class_ 41), (0, .nameAndType 42 43), (0, u "java/lang/Math"), (0, u "min"), (0, u "(II)I"), (9, u "([BI)C"), (34, .methodref 14 89), (0, .nameAndType 90 91), (0, u "canEncode"), (0, u "(I)Z"), (0, .methodref 39 93), (0, .nameAndType 94 43), (0, u "max"), (0, .methodref 14 96), (0, .nameAndType 97 98), (0, u "indexOfChar"), (0, u "([BIII)I"), (2, u "indexOf"), (10, .methodref 1 113), (0, .nameAndType 7 114), (0, u "([BB)V"), (6, u "$assertionsDisabled"), (0, u "Z"), (8, .class_ 133), (1, u "java/util/Arrays"), (17, .string 152), (0, u ""), (43, u "newString"), (0, u "([BII)Ljava/lang/String;"), (23, .class_ 223), (1, u "java/lang/StringLatin1$LinesSpliterator"), (8, .methodref 131 233), (0, .nameAndType 234 235), (0, u "copyOfRange"), (0, u "([BII)[B"), (16, u "charAt"), (28, u "equals"), (0, u "([B[B)Z"), (107, .class_ 391), (0, u "java/lang/StringLatin1$CharsSpliterator")] 3

def k18m0 : Method := { name := "<init>", desc := "()V", sig := { parameters := [], returnType := none }, accessFlags := 0, code := none }
def k18c1 : Code := { maxStack := 2, maxLocals := 2, code := jdk_43_method_2_code, exceptionTable := #[], attributes := #[] }
def k18m1 : Method := { name := "charAt", desc := "([BI)C", sig := { parameters := [(.array .byte), .int], returnType := some .char }, accessFlags := 9, code := some k18c1 }
def k18c2 : Code := { maxStack := 2, maxLocals := 1, code := jdk_43_method_4_code, exceptionTable := #[], attributes := #[] }
def k18m2 : Method := { name := "canEncode", desc := "(I)Z", sig := { parameters := [.int], returnType := some .boolean }, accessFlags := 9, code := some k18c2 }
def k18c3 : Code := { maxStack := 3, maxLocals := 3, code := jdk_43_method_13_code, exceptionTable := #[], attributes := #[] }
def k18m3 : Method := { name := "equals", desc := "([B[B)Z", sig := { parameters := [(.array .byte), (.array .byte)], returnType := some .boolean }, accessFlags := 9, code := some k18c3 }
def k18c4 : Code := { maxStack := 4, maxLocals := 4, code := jdk_43_method_22_code, exceptionTable := #[], attributes := #[] }
def k18m4 : Method := { name := "indexOf", desc := "([BIII)I", sig := { parameters := [(.array .byte), .int, .int, .int], returnType := some .int }, accessFlags := 9, code := some k18c4 }
def k18c5 : Code := { maxStack := 2, maxLocals := 6, code := jdk_43_method_23_code, exceptionTable := #[], attributes := #[] }
def k18m5 : Method := { name := "indexOfChar", desc := "([BIII)I", sig := { parameters := [(.array .byte), .int, .int, .int], returnType := some .int }, accessFlags := 10, code := some k18c5 }
def k18c6 : Code := { maxStack := 6, maxLocals := 3, code := jdk_43_method_47_code, exceptionTable := #[], attributes := #[] }
def k18m6 : Method := { name := "newString", desc := "([BII)Ljava/lang/String;", sig := { parameters := [(.array .byte), .int, .int], returnType := some (.object "java/lang/String") }, accessFlags := 9, code := some k18c6 }
/-- java/lang/StringLatin1 -/
def k18 : Class := { plain "java/lang/StringLatin1" (some 0) with
  accessFlags := 48
  interfaces := #[]
  cf := some (fileOf pool18 14 #[.nestMembers #[390, 221]] #[{ accessFlags := 0, nameIndex := 7, descriptorIndex := 8, attributes := #[] }, { accessFlags := 9, nameIndex := 252, descriptorIndex := 53, attributes := #[] }, { accessFlags := 9, nameIndex := 90, descriptorIndex := 91, attributes := #[] }, { accessFlags := 9, nameIndex := 281, descriptorIndex := 282, attributes := #[] }, { accessFlags := 9, nameIndex := 101, descriptorIndex := 98, attributes := #[] }, { accessFlags := 10, nameIndex := 97, descriptorIndex := 98, attributes := #[] }, { accessFlags := 9, nameIndex := 196, descriptorIndex := 197, attributes := #[] }] 48 4 #[] #[{ accessFlags := 4120, nameIndex := 121, descriptorIndex := 122, attributes := #[] }])
  fields := #[{ name := "$assertionsDisabled", type := .boolean, accessFlags := 4120, slot := 0, constantValue := 0 }]
  methods := #[k18m0, k18m1, k18m2, k18m3, k18m4, k18m5, k18m6]
  instanceTypes := #[]
  staticTypes := #[.boolean]
  resolved := Array.replicate 395 none
  statics := none }

def pool19 : Array CpInfo := pool [(1, .class_ 2), (0, u "java/lang/Math"), (1, .class_ 6), (1, u "java/lang/Object"), (0, u "<init>"), (0, u "()V"), (89, .class_ 100), (1, u "java/lang/Math$RandomNumberGeneratorHolder"), (71, u "negativeZeroFloatBits"), (0, u "J"), (2, u "negativeZeroDoubleBits"), (21, u "max"), (2, u "min"), (43, u "$assertionsDisabled"), (0, u "Z"), (88, u "(II)I"), (2, u "twoToTheDoubleScaleDown"), (0, u "D"), (4, u "twoToTheDoubleScaleUp"), (9, u "E"), (3, u "PI"), (2, u "TAU"), (2, u "DEGREES_TO_RADIANS"), (0, u "RADIANS_TO_DEGREES")] 94

def k19m0 : Method := { name := "<init>", desc := "()V", sig := { parameters := [], returnType := none }, accessFlags := 2, code := none }
def k19c1 : Code := { maxStack := 2, maxLocals := 2, code := jdk_29_method_65_code, exceptionTable := #[], attributes := #[] }
def k19m1 : Method := { name := "max", desc := "(II)I", sig := { parameters := [.int, .int], returnType := some .int }, accessFlags := 9, code := some k19c1 }
def k19c2 : Code := { maxStack := 2, maxLocals := 2, code := jdk_29_method_69_code, exceptionTable := #[], attributes := #[] }
def k19m2 : Method := { name := "min", desc := "(II)I", sig := { parameters := [.int, .int], returnType := some .int }, accessFlags := 9, code := some k19c2 }
/-- java/lang/Math -/
def k19 : Class := { plain "java/lang/Math" (some 0) with
  accessFlags := 49
  interfaces := #[]
  cf := some (fileOf pool19 1 #[.nestMembers #[98]] #[{ accessFlags := 2, nameIndex := 7, descriptorIndex := 8, attributes := #[] }, { accessFlags := 9, nameIndex := 198, descriptorIndex := 335, attributes := #[] }, { accessFlags := 9, nameIndex := 201, descriptorIndex := 335, attributes := #[] }] 49 4 #[] #[{ accessFlags := 25, nameIndex := 354, descriptorIndex := 339, attributes := #[] }, { accessFlags := 25, nameIndex := 358, descriptorIndex := 339, attributes := #[] }, { accessFlags := 25, nameIndex := 361, descriptorIndex := 339, attributes := #[] }, { accessFlags := 26, nameIndex := 364, descriptorIndex := 339, attributes := #[] }, { accessFlags := 26, nameIndex := 365, descriptorIndex := 339, attributes := #[] }, { accessFlags := 26, nameIndex := 172, descriptorIndex := 173, attributes := #[] }, { accessFlags := 26, nameIndex := 176, descriptorIndex := 173, attributes := #[] }, { accessFlags := 8, nameIndex := 344, descriptorIndex := 339, attributes := #[] }, { accessFlags := 8, nameIndex := 338, descriptorIndex := 339, attributes := #[] }, { accessFlags := 4120, nameIndex := 245, descriptorIndex := 246, attributes := #[] }])
  fields := #[{ name := "E", type := .double, accessFlags := 25, slot := 0, constantValue := 0 }, { name := "PI", type := .double, accessFlags := 25, slot := 1, constantValue := 0 }, { name := "TAU", type := .double, accessFlags := 25, slot := 2, constantValue := 0 }, { name := "DEGREES_TO_RADIANS", type := .double, accessFlags := 26, slot := 3, constantValue := 0 }, { name := "RADIANS_TO_DEGREES", type := .double, accessFlags := 26, slot := 4, constantValue := 0 }, { name := "negativeZeroFloatBits", type := .long, accessFlags := 26, slot := 5, constantValue := 0 }, { name := "negativeZeroDoubleBits", type := .long, accessFlags := 26, slot := 6, constantValue := 0 }, { name := "twoToTheDoubleScaleUp", type := .double, accessFlags := 8, slot := 7, constantValue := 0 }, { name := "twoToTheDoubleScaleDown", type := .double, accessFlags := 8, slot := 8, constantValue := 0 }, { name := "$assertionsDisabled", type := .boolean, accessFlags := 4120, slot := 9, constantValue := 0 }]
  methods := #[k19m0, k19m1, k19m2]
  instanceTypes := #[]
  staticTypes := #[.double, .double, .double, .double, .double, .long, .long, .double, .double, .boolean]
  resolved := Array.replicate 460 none
  statics := none }

def pool20 : Array CpInfo := pool [(6, .class_ 8), (1, u "java/lang/Object"), (0, u "<init>"), (0, u "()V"), (1, .class_ 14), (1, u "java/lang/StringUTF16"), (31, u "$assertionsDisabled"), (0, u "Z"), (13, u "HI_BYTE_SHIFT"), (0, u "I"), (2, u "LO_BYTE_SHIFT"), (49, .methodref 12 116), (0, .nameAndType 117 118), (0, u "compress"), (0, u "([CI[BII)I"), (3, u "([CII)[B"), (138, u "coderFromArrayLen"), (0, u "([BI)B"), (106, .class_ 371), (1, u "java/lang/StringUTF16$LinesSpliterator"), (58, u "MAX_LENGTH"), (196, .class_ 628), (0, u "java/lang/StringUTF16$CodePointsSpliterator"), (0, .class_ 630), (0, u "java/lang/StringUTF16$CharsSpliterator")] 4

def k20m0 : Method := { name := "<init>", desc := "()V", sig := { parameters := [], returnType := none }, accessFlags := 0, code := none }
def k20c1 : Code := { maxStack := 2, maxLocals := 2, code := jdk_52_method_15_code, exceptionTable := #[], attributes := #[] }
def k20m1 : Method := { name := "coderFromArrayLen", desc := "([BI)B", sig := { parameters := [(.array .byte), .int], returnType := some .byte }, accessFlags := 8, code := some k20c1 }
def k20c2 : Code := { maxStack := 5, maxLocals := 6, code := jdk_52_method_16_code, exceptionTable := #[], attributes := #[] }
def k20m2 : Method := { name := "compress", desc := "([CII)[B", sig := { parameters := [(.array .char), .int, .int], returnType := some (.array .byte) }, accessFlags := 9, code := some k20c2 }
def k20c3 : Code := { maxStack := 3, maxLocals := 7, code := jdk_52_method_21_code, exceptionTable := #[], attributes := #[] }
def k20m3 : Method := { name := "compress", desc := "([CI[BII)I", sig := { parameters := [(.array .char), .int, (.array .byte), .int, .int], returnType := some .int }, accessFlags := 9, code := some k20c3 }
/-- java/lang/StringUTF16 -/
def k20 : Class := { plain "java/lang/StringUTF16" (some 0) with
  accessFlags := 48
  interfaces := #[]
  cf := some (fileOf pool20 12 #[.nestMembers #[627, 629, 369]] #[{ accessFlags := 0, nameIndex := 9, descriptorIndex := 10, attributes := #[] }, { accessFlags := 8, nameIndex := 261, descriptorIndex := 262, attributes := #[] }, { accessFlags := 9, nameIndex := 117, descriptorIndex := 122, attributes := #[] }, { accessFlags := 9, nameIndex := 117, descriptorIndex := 118, attributes := #[] }] 48 6 #[] #[{ accessFlags := 26, nameIndex := 61, descriptorIndex := 62, attributes := #[] }, { accessFlags := 26, nameIndex := 65, descriptorIndex := 62, attributes := #[] }, { accessFlags := 24, nameIndex := 430, descriptorIndex := 62, attributes := #[] }, { accessFlags := 4120, nameIndex := 46, descriptorIndex := 47, attributes := #[] }])
  fields := #[{ name := "HI_BYTE_SHIFT", type := .int, accessFlags := 26, slot := 0, constantValue := 0 }, { name := "LO_BYTE_SHIFT", type := .int, accessFlags := 26, slot := 1, constantValue := 0 }, { name := "MAX_LENGTH", type := .int, accessFlags := 24, slot := 2, constantValue := 0 }, { name := "$assertionsDisabled", type := .boolean, accessFlags := 4120, slot := 3, constantValue := 0 }]
  methods := #[k20m0, k20m1, k20m2, k20m3]
  instanceTypes := #[]
  staticTypes := #[.int, .int, .int, .boolean]
  resolved := Array.replicate 635 none
  statics := none }

def pool21 : Array CpInfo := pool [(2, .class_ 4), (1, u "java/lang/Object"), (0, u "<init>"), (0, u "()V"), (17, .class_ 26), (1, u "jdk/internal/util/Preconditions"), (6, u "checkIndex"), (13, u "checkFromToIndex"), (7, .class_ 56), (0, u "jdk/internal/util/Preconditions$4"), (57, .class_ 115), (0, u "jdk/internal/util/Preconditions$1"), (7, u "SIOOBE_FORMATTER"), (0, u "Ljava/util/function/BiFunction;"), (0, .class_ 126), (0, u "jdk/internal/util/Preconditions$2"), (3, u "AIOOBE_FORMATTER"), (0, .class_ 132), (0, u "jdk/internal/util/Preconditions$3"), (3, u "IOOBE_FORMATTER"), (41, u "(IILjava/util/function/BiFunction;)I"), (4, u "(IIILjava/util/function/BiFunction;)I")] 10

def k21m0 : Method := { name := "<init>", desc := "()V", sig := { parameters := [], returnType := none }, accessFlags := 1, code := none }
def k21c1 : Code := { maxStack := 3, maxLocals := 3, code := jdk_41_method_11_code, exceptionTable := #[], attributes := #[] }
def k21m1 : Method := { name := "checkIndex", desc := "(IILjava/util/function/BiFunction;)I", sig := { parameters := [.int, .int, (.object "java/util/function/BiFunction")], returnType := some .int }, accessFlags := 9, code := some k21c1 }
def k21c2 : Code := { maxStack := 4, maxLocals := 4, code := jdk_41_method_12_code, exceptionTable := #[], attributes := #[] }
def k21m2 : Method := { name := "checkFromToIndex", desc := "(IIILjava/util/function/BiFunction;)I", sig := { parameters := [.int, .int, .int, (.object "java/util/function/BiFunction")], returnType := some .int }, accessFlags := 9, code := some k21c2 }
/-- jdk/internal/util/Preconditions -/
def k21 : Class := { plain "jdk/internal/util/Preconditions" (some 0) with
  accessFlags := 33
  interfaces := #[]
  cf := some (fileOf pool21 24 #[.nestMembers #[55, 131, 125, 114]] #[{ accessFlags := 1, nameIndex := 5, descriptorIndex := 6, attributes := #[] }, { accessFlags := 9, nameIndex := 33, descriptorIndex := 178, attributes := #[] }, { accessFlags := 9, nameIndex := 47, descriptorIndex := 183, attributes := #[] }] 33 2 #[] #[{ accessFlags := 25, nameIndex := 123, descriptorIndex := 124, attributes := #[] }, { accessFlags := 25, nameIndex := 130, descriptorIndex := 124, attributes := #[] }, { accessFlags := 25, nameIndex := 136, descriptorIndex := 124, attributes := #[] }])
  fields := #[{ name := "SIOOBE_FORMATTER", type := (.object "java/util/function/BiFunction"), accessFlags := 25, slot := 0, constantValue := 0 }, { name := "AIOOBE_FORMATTER", type := (.object "java/util/function/BiFunction"), accessFlags := 25, slot := 1, constantValue := 0 }, { name := "IOOBE_FORMATTER", type := (.object "java/util/function/BiFunction"), accessFlags := 25, slot := 2, constantValue := 0 }]
  methods := #[k21m0, k21m1, k21m2]
  instanceTypes := #[]
  staticTypes := #[(.object "java/util/function/BiFunction"), (.object "java/util/function/BiFunction"), (.object "java/util/function/BiFunction")]
  resolved := Array.replicate 194 none
  statics := some 6 }

def pool22 : Array CpInfo := pool [(2, .class_ 4), (1, u "java/lang/Object"), (0, u "<init>"), (0, u "()V"), (7, .class_ 16), (1, u "java/util/Arrays"), (57, .class_ 76), (1, u "java/util/Arrays$NaturalOrder"), (36, .class_ 115), (1, u "java/util/Arrays$LegacyMergeSort"), (1, u "Z"), (21, u "copyOfRange"), (10, .methodref 151 152), (0, .class_ 153), (0, .nameAndType 154 155), (0, u "java/lang/System"), (0, u "arraycopy"), (0, u "(Ljava/lang/Object;ILjava/lang/Object;II)V"), (148, .methodref 305 306), (0, .class_ 307), (0, .nameAndType 308 309), (0, u "java/lang/Math"), (0, u "min"), (0, u "(II)I"), (29, .methodref 14 340), (0, .nameAndType 341 342), (0, u "copyOfRangeByte"), (0, u "([BII)[B"), (0, .methodref 14 344), (0, .nameAndType 345 346), (0, u "checkLength"), (0, u "(II)V"), (28, .class_ 376), (0, u "java/util/Arrays$ArrayList"), (68, u "$assertionsDisabled"), (269, u "MIN_ARRAY_SORT_GRAN"), (0, u "I"), (2, u "INSERTIONSORT_THRESHOLD"), (255, .class_ 976), (0, u "java/util/Arrays$ArrayItr")] 52

def k22m0 : Method := { name := "<init>", desc := "()V", sig := { parameters := [], returnType := none }, accessFlags := 2, code := none }
def k22c1 : Code := { maxStack := 4, maxLocals := 2, code := jdk_65_method_131_code, exceptionTable := #[], attributes := #[] }
def k22m1 : Method := { name := "checkLength", desc := "(II)V", sig := { parameters := [.int, .int], returnType := none }, accessFlags := 10, code := some k22c1 }
def k22c2 : Code := { maxStack := 3, maxLocals := 3, code := jdk_65_method_132_code, exceptionTable := #[], attributes := #[] }
def k22m2 : Method := { name := "copyOfRange", desc := "([BII)[B", sig := { parameters := [(.array .byte), .int, .int], returnType := some (.array .byte) }, accessFlags := 9, code := some k22c2 }
def k22c3 : Code := { maxStack := 6, maxLocals := 5, code := jdk_65_method_133_code, exceptionTable := #[], attributes := #[] }
def k22m3 : Method := { name := "copyOfRangeByte", desc := "([BII)[B", sig := { parameters := [(.array .byte), .int, .int], returnType := some (.array .byte) }, accessFlags := 10, code := some k22c3 }
/-- java/util/Arrays -/
def k22 : Class := { plain "java/util/Arrays" (some 0) with
  accessFlags := 49
  interfaces := #[]
  cf := some (fileOf pool22 14 #[.nestMembers #[975, 375, 113, 74]] #[{ accessFlags := 2, nameIndex := 5, descriptorIndex := 6, attributes := #[] }, { accessFlags := 10, nameIndex := 345, descriptorIndex := 346, attributes := #[] }, { accessFlags := 9, nameIndex := 139, descriptorIndex := 342, attributes := #[] }, { accessFlags := 10, nameIndex := 341, descriptorIndex := 342, attributes := #[] }] 49 2 #[] #[{ accessFlags := 26, nameIndex := 715, descriptorIndex := 716, attributes := #[] }, { accessFlags := 26, nameIndex := 719, descriptorIndex := 716, attributes := #[] }, { accessFlags := 4120, nameIndex := 445, descriptorIndex := 117, attributes := #[] }])
  fields := #[{ name := "MIN_ARRAY_SORT_GRAN", type := .int, accessFlags := 26, slot := 0, constantValue := 0 }, { name := "INSERTIONSORT_THRESHOLD", type := .int, accessFlags := 26, slot := 1, constantValue := 0 }, { name := "$assertionsDisabled", type := .boolean, accessFlags := 4120, slot := 2, constantValue := 0 }]
  methods := #[k22m0, k22m1, k22m2, k22m3]
  instanceTypes := #[]
  staticTypes := #[.int, .int, .boolean]
  resolved := Array.replicate 1029 none
  statics := none }

def pool23 : Array CpInfo := pool [(2, .class_ 4), (1, u "java/lang/Object"), (0, u "<init>"), (0, u "()V"), (1, .class_ 10), (1, u "java/lang/System"), (0, u "allowSecurityManager"), (0, u "I"), (16, u "cons"), (0, u "Ljava/io/Console;"), (77, .class_ 110), (1, u "java/lang/System$CallersHolder"), (43, u "initialErrStream"), (0, u "Ljava/io/PrintStream;"), (19, u "security"), (0, u "Ljava/lang/SecurityManager;"), (31, .class_ 209), (0, u "java/lang/System$1"), (7, u "props"), (0, u "Ljava/util/Properties;"), (2, u "lineSeparator"), (0, u "Ljava/lang/String;"), (96, .class_ 321), (1, u "java/lang/System$LoggerFinder"), (5, .class_ 328), (0, u "java/lang/System$Logger"), (67, u "err"), (2, u "out"), (91, u "notSupportedJnuEncoding"), (15, u "in"), (17, u "initialIn"), (0, u "Ljava/io/InputStream;"), (35, u "bootLayer"), (0, u "Ljava/lang/ModuleLayer;"), (99, .class_ 664), (0, u "java/lang/System$2"), (9, u "NEVER"), (2, u "MAYBE"), (49, u "arraycopy"), (0, u "(Ljava/lang/Object;ILjava/lang/Object;II)V"), (72, .class_ 802), (0, u "java/lang/System$Logger$Level")] 31

def k23m0 : Method := { name := "<init>", desc := "()V", sig := { parameters := [], returnType := none }, accessFlags := 2, code := none }
def k23m1 : Method := { name := "arraycopy", desc := "(Ljava/lang/Object;ILjava/lang/Object;II)V", sig := { parameters := [(.object "java/lang/Object"), .int, (.object "java/lang/Object"), .int, .int], returnType := none }, accessFlags := 265, code := none }
/-- java/lang/System -/
def k23 : Class := { plain "java/lang/System" (some 0) with
  accessFlags := 49
  interfaces := #[]
  cf := some (fileOf pool23 8 #[.nestMembers #[319, 327, 801, 108, 663, 208]] #[{ accessFlags := 2, nameIndex := 5, descriptorIndex := 6, attributes := #[] }, { accessFlags := 265, nameIndex := 727, descriptorIndex := 728, attributes := #[] }] 49 2 #[] #[{ accessFlags := 25, nameIndex := 507, descriptorIndex := 526, attributes := #[] }, { accessFlags := 25, nameIndex := 399, descriptorIndex := 155, attributes := #[] }, { accessFlags := 25, nameIndex := 396, descriptorIndex := 155, attributes := #[] }, { accessFlags := 10, nameIndex := 525, descriptorIndex := 526, attributes := #[] }, { accessFlags := 26, nameIndex := 674, descriptorIndex := 12, attributes := #[] }, { accessFlags := 26, nameIndex := 677, descriptorIndex := 12, attributes := #[] }, { accessFlags := 10, nameIndex := 11, descriptorIndex := 12, attributes := #[] }, { accessFlags := 74, nameIndex := 175, descriptorIndex := 176, attributes := #[] }, { accessFlags := 10, nameIndex := 491, descriptorIndex := 222, attributes := #[] }, { accessFlags := 74, nameIndex := 29, descriptorIndex := 30, attributes := #[] }, { accessFlags := 74, nameIndex := 154, descriptorIndex := 155, attributes := #[] }, { accessFlags := 10, nameIndex := 217, descriptorIndex := 218, attributes := #[] }, { accessFlags := 10, nameIndex := 221, descriptorIndex := 222, attributes := #[] }, { accessFlags := 8, nameIndex := 562, descriptorIndex := 563, attributes := #[] }])
  fields := #[{ name := "in", type := (.object "java/io/InputStream"), accessFlags := 25, slot := 0, constantValue := 0 }, { name := "out", type := (.object "java/io/PrintStream"), accessFlags := 25, slot := 1, constantValue := 0 }, { name := "err", type := (.object "java/io/PrintStream"), accessFlags := 25, slot := 2, constantValue := 0 }, { name := "initialIn", type := (.object "java/io/InputStream"), accessFlags := 10, slot := 3, constantValue := 0 }, { name := "NEVER", type := .int, accessFlags := 26, slot := 4, constantValue := 0 }, { name := "MAYBE", type := .int, accessFlags := 26, slot := 5, constantValue := 0 }, { name := "allowSecurityManager", type := .int, accessFlags := 10, slot := 6, constantValue := 0 }, { name := "security", type := (.object "java/lang/SecurityManager"), accessFlags := 74, slot := 7, constantValue := 0 }, { name := "notSupportedJnuEncoding", type := (.object "java/lang/String"), accessFlags := 10, slot := 8, constantValue := 0 }, { name := "cons", type := (.object "java/io/Console"), accessFlags := 74, slot := 9, constantValue := 0 }, { name := "initialErrStream", type := (.object "java/io/PrintStream"), accessFlags := 74, slot := 10, constantValue := 0 }, { name := "props", type := (.object "java/util/Properties"), accessFlags := 10, slot := 11, constantValue := 0 }, { name := "lineSeparator", type := (.object "java/lang/String"), accessFlags := 10, slot := 12, constantValue := 0 }, { name := "bootLayer", type := (.object "java/lang/ModuleLayer"), accessFlags := 8, slot := 13, constantValue := 0 }]
  methods := #[k23m0, k23m1]
  instanceTypes := #[]
  staticTypes := #[(.object "java/io/InputStream"), (.object "java/io/PrintStream"), (.object "java/io/PrintStream"), (.object "java/io/InputStream"), .int, .int, .int, (.object "java/lang/SecurityManager"), (.object "java/lang/String"), (.object "java/io/Console"), (.object "java/io/PrintStream"), (.object "java/util/Properties"), (.object "java/lang/String"), (.object "java/lang/ModuleLayer")]
  resolved := Array.replicate 834 none
  statics := none }

def pool24 : Array CpInfo := pool [(9, u "<init>"), (6, .class_ 18), (1, u "java/lang/Object"), (0, u "()V"), (1, .class_ 23), (1, u "jdk/internal/util/ArraysSupport"), (0, u "LOG2_ARRAY_LONG_INDEX_SCALE"), (0, u "I"), (2, u "U"), (0, u "Ljdk/internal/misc/Unsafe;"), (8, u "BIG_ENDIAN"), (0, u "Z"), (8, u "LOG2_BYTE_BIT_SIZE"), (4, u "LOG2_ARRAY_INT_INDEX_SCALE"), (54, u "JLA"), (0, u "Ljdk/internal/access/JavaLangAccess;"), (11, u "LOG2_ARRAY_BOOLEAN_INDEX_SCALE"), (9, u "LOG2_ARRAY_BYTE_INDEX_SCALE"), (5, u "LOG2_ARRAY_CHAR_INDEX_SCALE"), (5, u "LOG2_ARRAY_SHORT_INDEX_SCALE"), (18, u "LOG2_ARRAY_FLOAT_INDEX_SCALE"), (24, u "LOG2_ARRAY_DOUBLE_INDEX_SCALE"), (89, u "T_BOOLEAN"), (2, u "T_CHAR"), (1, u "T_FLOAT"), (1, u "T_DOUBLE"), (1, u "T_BYTE"), (1, u "T_SHORT"), (1, u "T_INT"), (1, u "T_LONG"), (1, u "SOFT_MAX_ARRAY_LENGTH")] 83

def k24m0 : Method := { name := "<init>", desc := "()V", sig := { parameters := [], returnType := none }, accessFlags := 2, code := none }
/-- jdk/internal/util/ArraysSupport -/
def k24 : Class := { plain "jdk/internal/util/ArraysSupport" (some 0) with
  accessFlags := 33
  interfaces := #[]
  cf := some (fileOf pool24 21 #[] #[{ accessFlags := 2, nameIndex := 9, descriptorIndex := 19, attributes := #[] }] 33 16 #[] #[{ accessFlags := 24, nameIndex := 28, descriptorIndex := 29, attributes := #[] }, { accessFlags := 26, nameIndex := 38, descriptorIndex := 39, attributes := #[] }, { accessFlags := 25, nameIndex := 121, descriptorIndex := 25, attributes := #[] }, { accessFlags := 25, nameIndex := 131, descriptorIndex := 25, attributes := #[] }, { accessFlags := 25, nameIndex := 137, descriptorIndex := 25, attributes := #[] }, { accessFlags := 25, nameIndex := 143, descriptorIndex := 25, attributes := #[] }, { accessFlags := 25, nameIndex := 53, descriptorIndex := 25, attributes := #[] }, { accessFlags := 25, nameIndex := 24, descriptorIndex := 25, attributes := #[] }, { accessFlags := 25, nameIndex := 162, descriptorIndex := 25, attributes := #[] }, { accessFlags := 25, nameIndex := 187, descriptorIndex := 25, attributes := #[] }, { accessFlags := 26, nameIndex := 48, descriptorIndex := 25, attributes := #[] }, { accessFlags := 25, nameIndex := 277, descriptorIndex := 25, attributes := #[] }, { accessFlags := 25, nameIndex := 280, descriptorIndex := 25, attributes := #[] }, { accessFlags := 25, nameIndex := 282, descriptorIndex := 25, attributes := #[] }, { accessFlags := 25, nameIndex := 284, descriptorIndex := 25, attributes := #[] }, { accessFlags := 25, nameIndex := 286, descriptorIndex := 25, attributes := #[] }, { accessFlags := 25, nameIndex := 288, descriptorIndex := 25, attributes := #[] }, { accessFlags := 25, nameIndex := 290, descriptorIndex := 25, attributes := #[] }, { accessFlags := 25, nameIndex := 292, descriptorIndex := 25, attributes := #[] }, { accessFlags := 26, nameIndex := 108, descriptorIndex := 109, attributes := #[] }, { accessFlags := 25, nameIndex := 294, descriptorIndex := 25, attributes := #[] }])
  fields := #[{ name := "U", type := (.object "jdk/internal/misc/Unsafe"), accessFlags := 24, slot := 0, constantValue := 0 }, { name := "BIG_ENDIAN", type := .boolean, accessFlags := 26, slot := 1, constantValue := 0 }, { name := "LOG2_ARRAY_BOOLEAN_INDEX_SCALE", type := .int, accessFlags := 25, slot := 2, constantValue := 0 }, { name := "LOG2_ARRAY_BYTE_INDEX_SCALE", type := .int, accessFlags := 25, slot := 3, constantValue := 0 }, { name := "LOG2_ARRAY_CHAR_INDEX_SCALE", type := .int, accessFlags := 25, slot := 4, constantValue := 0 }, { name := "LOG2_ARRAY_SHORT_INDEX_SCALE", type := .int, accessFlags := 25, slot := 5, constantValue := 0 }, { name := "LOG2_ARRAY_INT_INDEX_SCALE", type := .int, accessFlags := 25, slot := 6, constantValue := 0 }, { name := "LOG2_ARRAY_LONG_INDEX_SCALE", type := .int, accessFlags := 25, slot := 7, constantValue := 0 }, { name := "LOG2_ARRAY_FLOAT_INDEX_SCALE", type := .int, accessFlags := 25, slot := 8, constantValue := 0 }, { name := "LOG2_ARRAY_DOUBLE_INDEX_SCALE", type := .int, accessFlags := 25, slot := 9, constantValue := 0 }, { name := "LOG2_BYTE_BIT_SIZE", type := .int, accessFlags := 26, slot := 10, constantValue := 0 }, { name := "T_BOOLEAN", type := .int, accessFlags := 25, slot := 11, constantValue := 0 }, { name := "T_CHAR", type := .int, accessFlags := 25, slot := 12, constantValue := 0 }, { name := "T_FLOAT", type := .int, accessFlags := 25, slot := 13, constantValue := 0 }, { name := "T_DOUBLE", type := .int, accessFlags := 25, slot := 14, constantValue := 0 }, { name := "T_BYTE", type := .int, accessFlags := 25, slot := 15, constantValue := 0 }, { name := "T_SHORT", type := .int, accessFlags := 25, slot := 16, constantValue := 0 }, { name := "T_INT", type := .int, accessFlags := 25, slot := 17, constantValue := 0 }, { name := "T_LONG", type := .int, accessFlags := 25, slot := 18, constantValue := 0 }, { name := "JLA", type := (.object "jdk/internal/access/JavaLangAccess"), accessFlags := 26, slot := 19, constantValue := 0 }, { name := "SOFT_MAX_ARRAY_LENGTH", type := .int, accessFlags := 25, slot := 20, constantValue := 0 }]
  methods := #[k24m0]
  instanceTypes := #[]
  staticTypes := #[(.object "jdk/internal/misc/Unsafe"), .boolean, .int, .int, .int, .int, .int, .int, .int, .int, .int, .int, .int, .int, .int, .int, .int, .int, .int, (.object "jdk/internal/access/JavaLangAccess"), .int]
  resolved := Array.replicate 378 none
  statics := none }

/-- the primitive byte -/
def k25 : Class := { plain "byte" none with kind := .primitive 'B', accessFlags := 0x411 }
/-- [B -/
def k26 : Class := { plain "[B" (some 0) with kind := .array 25 .byte, interfaces := #[17, 2], accessFlags := 1041 }

/-- the primitive char -/
def k27 : Class := { plain "char" none with kind := .primitive 'C', accessFlags := 0x411 }
/-- [C -/
def k28 : Class := { plain "[C" (some 0) with kind := .array 27 .char, interfaces := #[17, 2], accessFlags := 1041 }

/-- the primitive int -/
def k29 : Class := { plain "int" none with kind := .primitive 'I', accessFlags := 0x411 }
/-- [I -/
def k30 : Class := { plain "[I" (some 0) with kind := .array 29 .int, interfaces := #[17, 2], accessFlags := 1041 }

def heap : Heap := #[{ cls := 7, slots := #[.long 0, .int 1, .null, .int 0, .null, .int 0, .int 0], vm := .statics 7 },
  { cls := 8, slots := #[.ref 7, .int 0, .int 0], vm := .statics 8 },
  { cls := 9, slots := #[.ref 8, .null, .null, .null, .null, .null], vm := .statics 9 },
  { cls := 13, slots := #[.ref 9, .null], vm := .statics 13 },
  { cls := 14, slots := #[.ref 10], vm := .statics 14 },
  { cls := 15, slots := #[.ref 8, .null], vm := .statics 15 },
  { cls := 21, slots := #[.null, .null, .null], vm := .statics 21 },
  { cls := 26, slots := #[.int 0, .int 0, .int 0, .int 0, .int 0, .int 0, .int 0, .int 0, .int 0, .int 0, .int 0, .int 0, .int 0, .int 0, .int 0, .int 0, .int 0, .int 0, .int 0, .int 0, .int 0, .int 0, .int 0, .int 0, .int 0, .int 0, .int 0, .int 0, .int 0, .int 0, .int 0, .int 0, .int 0, .int 0, .int 0, .int 0, .int 0, .int 0, .int 0, .int 0, .int 0, .int 0, .int 0, .int 0, .int 0, .int 2, .int 2, .int 0, .int 2, .int 2, .int 2, .int 2, .int 2, .int 2, .int 2, .int 2, .int 2, .int 2, .int 3, .int 0, .int 0, .int 0, .int 0, .int 0, .int 0, .int 3, .int 3, .int 3, .int 3, .int 3, .int 3, .int 3, .int 3, .int 3, .int 3, .int 3, .int 3, .int 3, .int 3, .int 3, .int 3, .int 3, .int 3, .int 3, .int 3, .int 3, .int 3, .int 3, .int 3, .int 3, .int 3, .int 0, .int 0, .int 0, .int 0, .int 3, .int 0, .int 3, .int 3, .int 3, .int 3, .int 3, .int 3, .int 3, .int 3, .int 3, .int 3, .int 3, .int 3, .int 3, .int 3, .int 3, .int 3, .int 3, .int 3, .int 3, .int 3, .int 3, .int 3, .int 3, .int 3, .int 3, .int 3, .int 0, .int 0, .int 0, .int 0, .int 0], vm := .none },
  { cls := 15, slots := #[.null, .null, .null], vm := .none },
  { cls := 13, slots := #[.null, .null, .null], vm := .none },
  { cls := 14, slots := #[.null, .null, .null], vm := .none }]
def classes : Array Class := #[k0, k1, k2, k3, k4, k5, k6, k7, k8, k9, k10, k11, k12, k13, k14, k15, k16, k17, k18, k19, k20, k21, k22, k23, k24, k25, k26, k27, k28, k29, k30]
def interned : List (Array UInt16 × Addr) := []
def slotsUsed : Nat := 161
def theMethod : MethodId := ⟨1, 2⟩
def args0 : Array Value := #[.long 1, .long 2, .int 3, .int 65]
def aboutOver (below : List Frame) : State where
  vm := { classes := classes, interned := interned.toArray }
  heap := heap
  slotsUsed := slotsUsed
  threads := #[{ frames := .invoking theMethod args0 :: below }]
def below0 : List Frame := [.native { method := ⟨0, 0⟩, args := #[] }]
def about1 : State := aboutOver below0
def p0 : Program := .bare "" "" ""
def e0 : Env := launch0.env 0 0 0
theorem w_frames : about1.frames = Frame.invoking theMethod args0 :: below0 := rfl
set_option maxRecDepth 65536 in
theorem w_args : argsFit about1.vm theMethod args0 = true := by decide +kernel
set_option maxRecDepth 65536 in
theorem w_heap : heapFits about1 = true := by decide +kernel
set_option maxRecDepth 65536 in
theorem w_runnable : about1.curStatus? = some .runnable := by decide +kernel
set_option maxRecDepth 65536 in
theorem w_alone : about1.alone = true := by decide +kernel
set_option maxRecDepth 65536 in
theorem w_named : about1.methodNamed? x = some theMethod := by decide +kernel
set_option maxRecDepth 65536 in
theorem w_hears : about1.hears theMethod below0 = true := by decide +kernel
set_option maxRecDepth 65536 in
theorem w_ripe : about1.ripe theMethod args0 below0 = true := by decide +kernel
theorem w_running : about1.status = .running := rfl
set_option maxRecDepth 65536 in
theorem w_room : about1.hasRoom e0.platform room_1 = true :=
  launch0.hasRoom_least _ room_1 (by decide +kernel) (by decide +kernel) (by decide +kernel) (by decide +kernel) (by decide +kernel) (by decide +kernel)
theorem allAtoms_all (ts : List Jvm.Cond) (a : Array Jvm.Value) (st : Jvm.State) : (allAtoms ts).before a st = ts.all (fun c => c.before a st) := by
  induction ts with
  | nil => rfl
  | cons c t ih =>
    show (Jvm.Cond.and c (allAtoms t)).before a st = _
    rw [Jvm.Cond.before_and, ih, List.all_cons]
def words1 : List Jvm.Cond := Jvm.Cond.code x code maxLocals ret :: tables_1
/-- a 'code' word, met by the world's own term for the bytes: nothing is compared byte by byte -/
theorem code_word {y : MethodName} {bytes : ByteArray} {mx : Nat} {rt : Option FieldType} {a : Array Value} {s : State} {m : MethodId} {meth : Method} {c : Code} (h1 : s.methodNamed? y = some m) (h2 : s.vm.method? m = some meth) (h3 : meth.code = some c) (h4 : c.code = bytes)
    (h5 : (c.maxLocals == mx && c.exceptionTable.isEmpty && decide (c.maxStack ≤ mostOperands) && decide (meth.sig.returnType = rt) && !meth.locks && decide (parseMethodDescriptor y.desc = some meth.sig)) = true) : (Jvm.Cond.code y bytes mx rt).before a s = true := by
  simp only [Bool.and_eq_true, beq_iff_eq, Bool.not_eq_true', decide_eq_true_eq] at h5
  obtain ⟨⟨⟨⟨⟨g1, g2⟩, g3⟩, g4⟩, g5⟩, g6⟩ := h5
  simp [Cond.before, Cond.holds, Cond.value, h1, h2, h3, h4, g1, g2, g3, g4, g5, g6]
def isCode : Jvm.Cond → Bool
  | .code _ _ _ _ => true
  | _ => false
theorem all_split {L : List Jvm.Cond} {P : Jvm.Cond → Bool} (h1 : L.all (fun c => isCode c || P c) = true) (h2 : ∀ c ∈ L.filter isCode, P c = true) : L.all P = true := by
  refine List.all_eq_true.mpr fun c hc => ?_
  have h := List.all_eq_true.mp h1 c hc
  rcases Bool.eq_false_or_eq_true (isCode c) with hi | hi
  · exact h2 c (List.mem_filter.mpr ⟨hc, hi⟩)
  · simpa [hi] using h
set_option maxRecDepth 65536 in
theorem w_c0 : (Jvm.Cond.code x code maxLocals ret).before args0 about1 = true := code_word (m := ⟨1, 2⟩) (meth := k1m2) (c := k1c2) (by decide +kernel) rfl rfl rfl (by decide +kernel)
set_option maxRecDepth 65536 in
theorem w_c1 : (Jvm.Cond.code ({ cls := "com/example/bundlewright/bundlewright/core/NameIsPinLaw", name := "makeName", desc := "(ICCCC)Ljava/lang/String;" } : Jvm.MethodName) method_2_code (5 : Nat) (Option.some (Jvm.ClassFile.FieldType.object "java/lang/String"))).before args0 about1 = true := code_word (m := ⟨1, 1⟩) (meth := k1m1) (c := k1c1) (by decide +kernel) rfl rfl rfl (by decide +kernel)
set_option maxRecDepth 65536 in
theorem w_c2 : (Jvm.Cond.code ({ cls := "java/lang/String", name := "<init>", desc := "([C)V" } : Jvm.MethodName) jdk_42_method_3_code (2 : Nat) (Option.none : Option Jvm.ClassFile.FieldType)).before args0 about1 = true := code_word (m := ⟨7, 1⟩) (meth := k7m1) (c := k7c1) (by decide +kernel) rfl rfl rfl (by decide +kernel)
set_option maxRecDepth 65536 in
theorem w_c3 : (Jvm.Cond.code ({ cls := "java/lang/String", name := "<init>", desc := "([CIILjava/lang/Void;)V" } : Jvm.MethodName) jdk_42_method_149_code (6 : Nat) (Option.none : Option Jvm.ClassFile.FieldType)).before args0 about1 = true := code_word (m := ⟨7, 12⟩) (meth := k7m12) (c := k7c12) (by decide +kernel) rfl rfl rfl (by decide +kernel)
set_option maxRecDepth 65536 in
theorem w_c4 : (Jvm.Cond.code ({ cls := "java/lang/Object", name := "<init>", desc := "()V" } : Jvm.MethodName) object_method_1_code (1 : Nat) (Option.none : Option Jvm.ClassFile.FieldType)).before args0 about1 = true := code_word (m := ⟨0, 0⟩) (meth := k0m0) (c := k0c0) (by decide +kernel) rfl rfl rfl (by decide +kernel)
set_option maxRecDepth 65536 in
theorem w_c5 : (Jvm.Cond.code ({ cls := "com/example/bundlewright/bundlewright/core/Name", name := "<init>", desc := "(Ljava/lang/String;I)V" } : Jvm.MethodName) prog_31_method_1_code (4 : Nat) (Option.none : Option Jvm.ClassFile.FieldType)).before args0 about1 = true := code_word (m := ⟨8, 0⟩) (meth := k8m0) (c := k8c0) (by decide +kernel) rfl rfl rfl (by decide +kernel)
set_option maxRecDepth 65536 in
theorem w_c6 : (Jvm.Cond.code ({ cls := "java/lang/String", name := "getBytes", desc := "(Ljava/nio/charset/Charset;)[B" } : Jvm.MethodName) jdk_42_method_64_code (2 : Nat) (Option.some (Jvm.ClassFile.FieldType.array Jvm.ClassFile.FieldType.byte))).before args0 about1 = true := code_word (m := ⟨7, 6⟩) (meth := k7m6) (c := k7c6) (by decide +kernel) rfl rfl rfl (by decide +kernel)
set_option maxRecDepth 65536 in
theorem w_c7 : (Jvm.Cond.code ({ cls := "java/lang/String", name := "coder", desc := "()B" } : Jvm.MethodName) jdk_42_method_152_code (1 : Nat) (Option.some Jvm.ClassFile.FieldType.byte)).before args0 about1 = true := code_word (m := ⟨7, 14⟩) (meth := k7m14) (c := k7c14) (by decide +kernel) rfl rfl rfl (by decide +kernel)
set_option maxRecDepth 65536 in
theorem w_c8 : (Jvm.Cond.code ({ cls := "java/lang/String", name := "encode", desc := "(Ljava/nio/charset/Charset;B[B)[B" } : Jvm.MethodName) jdk_42_method_18_code (3 : Nat) (Option.some (Jvm.ClassFile.FieldType.array Jvm.ClassFile.FieldType.byte))).before args0 about1 = true := code_word (m := ⟨7, 2⟩) (meth := k7m2) (c := k7c2) (by decide +kernel) rfl rfl rfl (by decide +kernel)
set_option maxRecDepth 65536 in
theorem w_c9 : (Jvm.Cond.code ({ cls := "java/lang/String", name := "encodeASCII", desc := "(B[B)[B" } : Jvm.MethodName) jdk_42_method_24_code (7 : Nat) (Option.some (Jvm.ClassFile.FieldType.array Jvm.ClassFile.FieldType.byte))).before args0 about1 = true := code_word (m := ⟨7, 3⟩) (meth := k7m3) (c := k7c3) (by decide +kernel) rfl rfl rfl (by decide +kernel)
set_option maxRecDepth 65536 in
theorem w_c10 : (Jvm.Cond.code ({ cls := "java/lang/StringCoding", name := "countPositives", desc := "([BII)I" } : Jvm.MethodName) jdk_123_method_3_code (5 : Nat) (Option.some Jvm.ClassFile.FieldType.int)).before args0 about1 = true := code_word (m := ⟨16, 1⟩) (meth := k16m1) (c := k16c1) (by decide +kernel) rfl rfl rfl (by decide +kernel)
set_option maxRecDepth 65536 in
theorem w_c11 : (Jvm.Cond.code ({ cls := "java/lang/String", name := "indexOf", desc := "(I)I" } : Jvm.MethodName) jdk_42_method_79_code (2 : Nat) (Option.some Jvm.ClassFile.FieldType.int)).before args0 about1 = true := code_word (m := ⟨7, 8⟩) (meth := k7m8) (c := k7c8) (by decide +kernel) rfl rfl rfl (by decide +kernel)
set_option maxRecDepth 65536 in
theorem w_c12 : (Jvm.Cond.code ({ cls := "java/lang/String", name := "indexOf", desc := "(II)I" } : Jvm.MethodName) jdk_42_method_80_code (3 : Nat) (Option.some Jvm.ClassFile.FieldType.int)).before args0 about1 = true := code_word (m := ⟨7, 9⟩) (meth := k7m9) (c := k7c9) (by decide +kernel) rfl rfl rfl (by decide +kernel)
set_option maxRecDepth 65536 in
theorem w_c13 : (Jvm.Cond.code ({ cls := "java/lang/String", name := "isLatin1", desc := "()Z" } : Jvm.MethodName) jdk_42_method_154_code (1 : Nat) (Option.some Jvm.ClassFile.FieldType.boolean)).before args0 about1 = true := code_word (m := ⟨7, 15⟩) (meth := k7m15) (c := k7c15) (by decide +kernel) rfl rfl rfl (by decide +kernel)
set_option maxRecDepth 65536 in
theorem w_c14 : (Jvm.Cond.code ({ cls := "java/lang/String", name := "length", desc := "()I" } : Jvm.MethodName) jdk_42_method_54_code (1 : Nat) (Option.some Jvm.ClassFile.FieldType.int)).before args0 about1 = true := code_word (m := ⟨7, 4⟩) (meth := k7m4) (c := k7c4) (by decide +kernel) rfl rfl rfl (by decide +kernel)
set_option maxRecDepth 65536 in
theorem w_c15 : (Jvm.Cond.code ({ cls := "java/lang/StringLatin1", name := "indexOf", desc := "([BIII)I" } : Jvm.MethodName) jdk_43_method_22_code (4 : Nat) (Option.some Jvm.ClassFile.FieldType.int)).before args0 about1 = true := code_word (m := ⟨18, 4⟩) (meth := k18m4) (c := k18c4) (by decide +kernel) rfl rfl rfl (by decide +kernel)
set_option maxRecDepth 65536 in
theorem w_c16 : (Jvm.Cond.code ({ cls := "java/lang/StringLatin1", name := "canEncode", desc := "(I)Z" } : Jvm.MethodName) jdk_43_method_4_code (1 : Nat) (Option.some Jvm.ClassFile.FieldType.boolean)).before args0 about1 = true := code_word (m := ⟨18, 2⟩) (meth := k18m2) (c := k18c2) (by decide +kernel) rfl rfl rfl (by decide +kernel)
set_option maxRecDepth 65536 in
theorem w_c17 : (Jvm.Cond.code ({ cls := "java/lang/Math", name := "max", desc := "(II)I" } : Jvm.MethodName) jdk_29_method_65_code (2 : Nat) (Option.some Jvm.ClassFile.FieldType.int)).before args0 about1 = true := code_word (m := ⟨19, 1⟩) (meth := k19m1) (c := k19c1) (by decide +kernel) rfl rfl rfl (by decide +kernel)
set_option maxRecDepth 65536 in
theorem w_c18 : (Jvm.Cond.code ({ cls := "java/lang/Math", name := "min", desc := "(II)I" } : Jvm.MethodName) jdk_29_method_69_code (2 : Nat) (Option.some Jvm.ClassFile.FieldType.int)).before args0 about1 = true := code_word (m := ⟨19, 2⟩) (meth := k19m2) (c := k19c2) (by decide +kernel) rfl rfl rfl (by decide +kernel)
set_option maxRecDepth 65536 in
theorem w_c19 : (Jvm.Cond.code ({ cls := "java/lang/String", name := "equals", desc := "(Ljava/lang/Object;)Z" } : Jvm.MethodName) jdk_42_method_66_code (3 : Nat) (Option.some Jvm.ClassFile.FieldType.boolean)).before args0 about1 = true := code_word (m := ⟨7, 7⟩) (meth := k7m7) (c := k7c7) (by decide +kernel) rfl rfl rfl (by decide +kernel)
set_option maxRecDepth 65536 in
theorem w_c20 : (Jvm.Cond.code ({ cls := "java/lang/StringLatin1", name := "equals", desc := "([B[B)Z" } : Jvm.MethodName) jdk_43_method_13_code (3 : Nat) (Option.some Jvm.ClassFile.FieldType.boolean)).before args0 about1 = true := code_word (m := ⟨18, 3⟩) (meth := k18m3) (c := k18c3) (by decide +kernel) rfl rfl rfl (by decide +kernel)
set_option maxRecDepth 65536 in
theorem w_c21 : (Jvm.Cond.code ({ cls := "com/example/bundlewright/bundlewright/core/Name", name := "is", desc := "([BII)Z" } : Jvm.MethodName) prog_31_method_12_code (6 : Nat) (Option.some Jvm.ClassFile.FieldType.boolean)).before args0 about1 = true := code_word (m := ⟨8, 2⟩) (meth := k8m2) (c := k8c2) (by decide +kernel) rfl rfl rfl (by decide +kernel)
set_option maxRecDepth 65536 in
theorem w_c22 : (Jvm.Cond.code ({ cls := "java/lang/StringUTF16", name := "compress", desc := "([CII)[B" } : Jvm.MethodName) jdk_52_method_16_code (6 : Nat) (Option.some (Jvm.ClassFile.FieldType.array Jvm.ClassFile.FieldType.byte))).before args0 about1 = true := code_word (m := ⟨20, 2⟩) (meth := k20m2) (c := k20c2) (by decide +kernel) rfl rfl rfl (by decide +kernel)
set_option maxRecDepth 65536 in
theorem w_c23 : (Jvm.Cond.code ({ cls := "java/lang/StringUTF16", name := "compress", desc := "([CI[BII)I" } : Jvm.MethodName) jdk_52_method_21_code (7 : Nat) (Option.some Jvm.ClassFile.FieldType.int)).before args0 about1 = true := code_word (m := ⟨20, 3⟩) (meth := k20m3) (c := k20c3) (by decide +kernel) rfl rfl rfl (by decide +kernel)
set_option maxRecDepth 65536 in
theorem w_c24 : (Jvm.Cond.code ({ cls := "java/lang/StringUTF16", name := "coderFromArrayLen", desc := "([BI)B" } : Jvm.MethodName) jdk_52_method_15_code (2 : Nat) (Option.some Jvm.ClassFile.FieldType.byte)).before args0 about1 = true := code_word (m := ⟨20, 1⟩) (meth := k20m1) (c := k20c1) (by decide +kernel) rfl rfl rfl (by decide +kernel)
set_option maxRecDepth 65536 in
theorem w_c25 : (Jvm.Cond.code ({ cls := "java/lang/StringLatin1", name := "indexOfChar", desc := "([BIII)I" } : Jvm.MethodName) jdk_43_method_23_code (6 : Nat) (Option.some Jvm.ClassFile.FieldType.int)).before args0 about1 = true := code_word (m := ⟨18, 5⟩) (meth := k18m5) (c := k18c5) (by decide +kernel) rfl rfl rfl (by decide +kernel)
set_option maxRecDepth 65536 in
theorem w_c26 : (Jvm.Cond.code ({ cls := "java/lang/String", name := "substring", desc := "(II)Ljava/lang/String;" } : Jvm.MethodName) jdk_42_method_92_code (5 : Nat) (Option.some (Jvm.ClassFile.FieldType.object "java/lang/String"))).before args0 about1 = true := code_word (m := ⟨7, 11⟩) (meth := k7m11) (c := k7c11) (by decide +kernel) rfl rfl rfl (by decide +kernel)
set_option maxRecDepth 65536 in
theorem w_c27 : (Jvm.Cond.code ({ cls := "java/lang/String", name := "checkBoundsBeginEnd", desc := "(III)V" } : Jvm.MethodName) jdk_42_method_158_code (3 : Nat) (Option.none : Option Jvm.ClassFile.FieldType)).before args0 about1 = true := code_word (m := ⟨7, 17⟩) (meth := k7m17) (c := k7c17) (by decide +kernel) rfl rfl rfl (by decide +kernel)
set_option maxRecDepth 65536 in
theorem w_c28 : (Jvm.Cond.code ({ cls := "jdk/internal/util/Preconditions", name := "checkFromToIndex", desc := "(IIILjava/util/function/BiFunction;)I" } : Jvm.MethodName) jdk_41_method_12_code (4 : Nat) (Option.some Jvm.ClassFile.FieldType.int)).before args0 about1 = true := code_word (m := ⟨21, 2⟩) (meth := k21m2) (c := k21c2) (by decide +kernel) rfl rfl rfl (by decide +kernel)
set_option maxRecDepth 65536 in
theorem w_c29 : (Jvm.Cond.code ({ cls := "java/lang/StringLatin1", name := "newString", desc := "([BII)Ljava/lang/String;" } : Jvm.MethodName) jdk_43_method_47_code (3 : Nat) (Option.some (Jvm.ClassFile.FieldType.object "java/lang/String"))).before args0 about1 = true := code_word (m := ⟨18, 6⟩) (meth := k18m6) (c := k18c6) (by decide +kernel) rfl rfl rfl (by decide +kernel)
set_option maxRecDepth 65536 in
theorem w_c30 : (Jvm.Cond.code ({ cls := "java/util/Arrays", name := "copyOfRange", desc := "([BII)[B" } : Jvm.MethodName) jdk_65_method_132_code (3 : Nat) (Option.some (Jvm.ClassFile.FieldType.array Jvm.ClassFile.FieldType.byte))).before args0 about1 = true := code_word (m := ⟨22, 2⟩) (meth := k22m2) (c := k22c2) (by decide +kernel) rfl rfl rfl (by decide +kernel)
set_option maxRecDepth 65536 in
theorem w_c31 : (Jvm.Cond.code ({ cls := "java/util/Arrays", name := "copyOfRangeByte", desc := "([BII)[B" } : Jvm.MethodName) jdk_65_method_133_code (5 : Nat) (Option.some (Jvm.ClassFile.FieldType.array Jvm.ClassFile.FieldType.byte))).before args0 about1 = true := code_word (m := ⟨22, 3⟩) (meth := k22m3) (c := k22c3) (by decide +kernel) rfl rfl rfl (by decide +kernel)
set_option maxRecDepth 65536 in
theorem w_c32 : (Jvm.Cond.code ({ cls := "java/util/Arrays", name := "checkLength", desc := "(II)V" } : Jvm.MethodName) jdk_65_method_131_code (2 : Nat) (Option.none : Option Jvm.ClassFile.FieldType)).before args0 about1 = true := code_word (m := ⟨22, 1⟩) (meth := k22m1) (c := k22c1) (by decide +kernel) rfl rfl rfl (by decide +kernel)
set_option maxRecDepth 65536 in
theorem w_c33 : (Jvm.Cond.code ({ cls := "java/lang/String", name := "<init>", desc := "([BB)V" } : Jvm.MethodName) jdk_42_method_151_code (3 : Nat) (Option.none : Option Jvm.ClassFile.FieldType)).before args0 about1 = true := code_word (m := ⟨7, 13⟩) (meth := k7m13) (c := k7c13) (by decide +kernel) rfl rfl rfl (by decide +kernel)
set_option maxRecDepth 65536 in
theorem w_c34 : (Jvm.Cond.code ({ cls := "java/lang/String", name := "substring", desc := "(I)Ljava/lang/String;" } : Jvm.MethodName) jdk_42_method_91_code (2 : Nat) (Option.some (Jvm.ClassFile.FieldType.object "java/lang/String"))).before args0 about1 = true := code_word (m := ⟨7, 10⟩) (meth := k7m10) (c := k7c10) (by decide +kernel) rfl rfl rfl (by decide +kernel)
set_option maxRecDepth 65536 in
theorem w_c35 : (Jvm.Cond.code ({ cls := "java/lang/String", name := "charAt", desc := "(I)C" } : Jvm.MethodName) jdk_42_method_56_code (2 : Nat) (Option.some Jvm.ClassFile.FieldType.char)).before args0 about1 = true := code_word (m := ⟨7, 5⟩) (meth := k7m5) (c := k7c5) (by decide +kernel) rfl rfl rfl (by decide +kernel)
set_option maxRecDepth 65536 in
theorem w_c36 : (Jvm.Cond.code ({ cls := "java/lang/StringLatin1", name := "charAt", desc := "([BI)C" } : Jvm.MethodName) jdk_43_method_2_code (2 : Nat) (Option.some Jvm.ClassFile.FieldType.char)).before args0 about1 = true := code_word (m := ⟨18, 1⟩) (meth := k18m1) (c := k18c1) (by decide +kernel) rfl rfl rfl (by decide +kernel)
set_option maxRecDepth 65536 in
theorem w_c37 : (Jvm.Cond.code ({ cls := "java/lang/String", name := "checkIndex", desc := "(II)V" } : Jvm.MethodName) jdk_42_method_155_code (2 : Nat) (Option.none : Option Jvm.ClassFile.FieldType)).before args0 about1 = true := code_word (m := ⟨7, 16⟩) (meth := k7m16) (c := k7c16) (by decide +kernel) rfl rfl rfl (by decide +kernel)
set_option maxRecDepth 65536 in
theorem w_c38 : (Jvm.Cond.code ({ cls := "jdk/internal/util/Preconditions", name := "checkIndex", desc := "(IILjava/util/function/BiFunction;)I" } : Jvm.MethodName) jdk_41_method_11_code (3 : Nat) (Option.some Jvm.ClassFile.FieldType.int)).before args0 about1 = true := code_word (m := ⟨21, 1⟩) (meth := k21m1) (c := k21c1) (by decide +kernel) rfl rfl rfl (by decide +kernel)
set_option maxRecDepth 65536 in
theorem w_c39 : (Jvm.Cond.code ({ cls := "com/example/bundlewright/bundlewright/core/Name", name := "isNameStart", desc := "(I)Z" } : Jvm.MethodName) prog_31_method_2_code (1 : Nat) (Option.some Jvm.ClassFile.FieldType.boolean)).before args0 about1 = true := code_word (m := ⟨8, 1⟩) (meth := k8m1) (c := k8c1) (by decide +kernel) rfl rfl rfl (by decide +kernel)
def codes1 : List Jvm.Cond := [Jvm.Cond.code x code maxLocals ret, Jvm.Cond.code ({ cls := "com/example/bundlewright/bundlewright/core/NameIsPinLaw", name := "makeName", desc := "(ICCCC)Ljava/lang/String;" } : Jvm.MethodName) method_2_code (5 : Nat) (Option.some (Jvm.ClassFile.FieldType.object "java/lang/String")), Jvm.Cond.code ({ cls := "java/lang/String", name := "<init>", desc := "([C)V" } : Jvm.MethodName) jdk_42_method_3_code (2 : Nat) (Option.none : Option Jvm.ClassFile.FieldType), Jvm.Cond.code ({ cls := "java/lang/String", name := "<init>", desc := "([CIILjava/lang/Void;)V" } : Jvm.MethodName) jdk_42_method_149_code (6 : Nat) (Option.none : Option Jvm.ClassFile.FieldType), Jvm.Cond.code ({ cls := "java/lang/Object", name := "<init>", desc := "()V" } : Jvm.MethodName) object_method_1_code (1 : Nat) (Option.none : Option Jvm.ClassFile.FieldType), Jvm.Cond.code ({ cls := "com/example/bundlewright/bundlewright/core/Name", name := "<init>", desc := "(Ljava/lang/String;I)V" } : Jvm.MethodName) prog_31_method_1_code (4 : Nat) (Option.none : Option Jvm.ClassFile.FieldType), Jvm.Cond.code ({ cls := "java/lang/String", name := "getBytes", desc := "(Ljava/nio/charset/Charset;)[B" } : Jvm.MethodName) jdk_42_method_64_code (2 : Nat) (Option.some (Jvm.ClassFile.FieldType.array Jvm.ClassFile.FieldType.byte)), Jvm.Cond.code ({ cls := "java/lang/String", name := "coder", desc := "()B" } : Jvm.MethodName) jdk_42_method_152_code (1 : Nat) (Option.some Jvm.ClassFile.FieldType.byte), Jvm.Cond.code ({ cls := "java/lang/String", name := "encode", desc := "(Ljava/nio/charset/Charset;B[B)[B" } : Jvm.MethodName) jdk_42_method_18_code (3 : Nat) (Option.some (Jvm.ClassFile.FieldType.array Jvm.ClassFile.FieldType.byte)), Jvm.Cond.code ({ cls := "java/lang/String", name := "encodeASCII", desc := "(B[B)[B" } : Jvm.MethodName) jdk_42_method_24_code (7 : Nat) (Option.some (Jvm.ClassFile.FieldType.array Jvm.ClassFile.FieldType.byte)), Jvm.Cond.code ({ cls := "java/lang/StringCoding", name := "countPositives", desc := "([BII)I" } : Jvm.MethodName) jdk_123_method_3_code (5 : Nat) (Option.some Jvm.ClassFile.FieldType.int), Jvm.Cond.code ({ cls := "java/lang/String", name := "indexOf", desc := "(I)I" } : Jvm.MethodName) jdk_42_method_79_code (2 : Nat) (Option.some Jvm.ClassFile.FieldType.int), Jvm.Cond.code ({ cls := "java/lang/String", name := "indexOf", desc := "(II)I" } : Jvm.MethodName) jdk_42_method_80_code (3 : Nat) (Option.some Jvm.ClassFile.FieldType.int), Jvm.Cond.code ({ cls := "java/lang/String", name := "isLatin1", desc := "()Z" } : Jvm.MethodName) jdk_42_method_154_code (1 : Nat) (Option.some Jvm.ClassFile.FieldType.boolean), Jvm.Cond.code ({ cls := "java/lang/String", name := "length", desc := "()I" } : Jvm.MethodName) jdk_42_method_54_code (1 : Nat) (Option.some Jvm.ClassFile.FieldType.int), Jvm.Cond.code ({ cls := "java/lang/StringLatin1", name := "indexOf", desc := "([BIII)I" } : Jvm.MethodName) jdk_43_method_22_code (4 : Nat) (Option.some Jvm.ClassFile.FieldType.int), Jvm.Cond.code ({ cls := "java/lang/StringLatin1", name := "canEncode", desc := "(I)Z" } : Jvm.MethodName) jdk_43_method_4_code (1 : Nat) (Option.some Jvm.ClassFile.FieldType.boolean), Jvm.Cond.code ({ cls := "java/lang/Math", name := "max", desc := "(II)I" } : Jvm.MethodName) jdk_29_method_65_code (2 : Nat) (Option.some Jvm.ClassFile.FieldType.int), Jvm.Cond.code ({ cls := "java/lang/Math", name := "min", desc := "(II)I" } : Jvm.MethodName) jdk_29_method_69_code (2 : Nat) (Option.some Jvm.ClassFile.FieldType.int), Jvm.Cond.code ({ cls := "java/lang/String", name := "equals", desc := "(Ljava/lang/Object;)Z" } : Jvm.MethodName) jdk_42_method_66_code (3 : Nat) (Option.some Jvm.ClassFile.FieldType.boolean), Jvm.Cond.code ({ cls := "java/lang/StringLatin1", name := "equals", desc := "([B[B)Z" } : Jvm.MethodName) jdk_43_method_13_code (3 : Nat) (Option.some Jvm.ClassFile.FieldType.boolean), Jvm.Cond.code ({ cls := "com/example/bundlewright/bundlewright/core/Name", name := "is", desc := "([BII)Z" } : Jvm.MethodName) prog_31_method_12_code (6 : Nat) (Option.some Jvm.ClassFile.FieldType.boolean), Jvm.Cond.code ({ cls := "java/lang/StringUTF16", name := "compress", desc := "([CII)[B" } : Jvm.MethodName) jdk_52_method_16_code (6 : Nat) (Option.some (Jvm.ClassFile.FieldType.array Jvm.ClassFile.FieldType.byte)), Jvm.Cond.code ({ cls := "java/lang/StringUTF16", name := "compress", desc := "([CI[BII)I" } : Jvm.MethodName) jdk_52_method_21_code (7 : Nat) (Option.some Jvm.ClassFile.FieldType.int), Jvm.Cond.code ({ cls := "java/lang/StringUTF16", name := "coderFromArrayLen", desc := "([BI)B" } : Jvm.MethodName) jdk_52_method_15_code (2 : Nat) (Option.some Jvm.ClassFile.FieldType.byte), Jvm.Cond.code ({ cls := "java/lang/StringLatin1", name := "indexOfChar", desc := "([BIII)I" } : Jvm.MethodName) jdk_43_method_23_code (6 : Nat) (Option.some Jvm.ClassFile.FieldType.int), Jvm.Cond.code ({ cls := "java/lang/String", name := "substring", desc := "(II)Ljava/lang/String;" } : Jvm.MethodName) jdk_42_method_92_code (5 : Nat) (Option.some (Jvm.ClassFile.FieldType.object "java/lang/String")), Jvm.Cond.code ({ cls := "java/lang/String", name := "checkBoundsBeginEnd", desc := "(III)V" } : Jvm.MethodName) jdk_42_method_158_code (3 : Nat) (Option.none : Option Jvm.ClassFile.FieldType), Jvm.Cond.code ({ cls := "jdk/internal/util/Preconditions", name := "checkFromToIndex", desc := "(IIILjava/util/function/BiFunction;)I" } : Jvm.MethodName) jdk_41_method_12_code (4 : Nat) (Option.some Jvm.ClassFile.FieldType.int), Jvm.Cond.code ({ cls := "java/lang/StringLatin1", name := "newString", desc := "([BII)Ljava/lang/String;" } : Jvm.MethodName) jdk_43_method_47_code (3 : Nat) (Option.some (Jvm.ClassFile.FieldType.object "java/lang/String")), Jvm.Cond.code ({ cls := "java/util/Arrays", name := "copyOfRange", desc := "([BII)[B" } : Jvm.MethodName) jdk_65_method_132_code (3 : Nat) (Option.some (Jvm.ClassFile.FieldType.array Jvm.ClassFile.FieldType.byte)), Jvm.Cond.code ({ cls := "java/util/Arrays", name := "copyOfRangeByte", desc := "([BII)[B" } : Jvm.MethodName) jdk_65_method_133_code (5 : Nat) (Option.some (Jvm.ClassFile.FieldType.array Jvm.ClassFile.FieldType.byte)), Jvm.Cond.code ({ cls := "java/util/Arrays", name := "checkLength", desc := "(II)V" } : Jvm.MethodName) jdk_65_method_131_code (2 : Nat) (Option.none : Option Jvm.ClassFile.FieldType), Jvm.Cond.code ({ cls := "java/lang/String", name := "<init>", desc := "([BB)V" } : Jvm.MethodName) jdk_42_method_151_code (3 : Nat) (Option.none : Option Jvm.ClassFile.FieldType), Jvm.Cond.code ({ cls := "java/lang/String", name := "substring", desc := "(I)Ljava/lang/String;" } : Jvm.MethodName) jdk_42_method_91_code (2 : Nat) (Option.some (Jvm.ClassFile.FieldType.object "java/lang/String")), Jvm.Cond.code ({ cls := "java/lang/String", name := "charAt", desc := "(I)C" } : Jvm.MethodName) jdk_42_method_56_code (2 : Nat) (Option.some Jvm.ClassFile.FieldType.char), Jvm.Cond.code ({ cls := "java/lang/StringLatin1", name := "charAt", desc := "([BI)C" } : Jvm.MethodName) jdk_43_method_2_code (2 : Nat) (Option.some Jvm.ClassFile.FieldType.char), Jvm.Cond.code ({ cls := "java/lang/String", name := "checkIndex", desc := "(II)V" } : Jvm.MethodName) jdk_42_method_155_code (2 : Nat) (Option.none : Option Jvm.ClassFile.FieldType), Jvm.Cond.code ({ cls := "jdk/internal/util/Preconditions", name := "checkIndex", desc := "(IILjava/util/function/BiFunction;)I" } : Jvm.MethodName) jdk_41_method_11_code (3 : Nat) (Option.some Jvm.ClassFile.FieldType.int), Jvm.Cond.code ({ cls := "com/example/bundlewright/bundlewright/core/Name", name := "isNameStart", desc := "(I)Z" } : Jvm.MethodName) prog_31_method_2_code (1 : Nat) (Option.some Jvm.ClassFile.FieldType.boolean)]
set_option maxRecDepth 65536 in
theorem codes_eq : words1.filter isCode = codes1 := rfl
theorem w_codes : ∀ c ∈ words1.filter isCode, c.before args0 about1 = true := by
  rw [codes_eq]
  intro c hc
  simp only [codes1, List.mem_cons, List.not_mem_nil, or_false] at hc
  rcases hc with rfl | rfl | rfl | rfl | rfl | rfl | rfl | rfl | rfl | rfl | rfl | rfl | rfl | rfl | rfl | rfl | rfl | rfl | rfl | rfl | rfl | rfl | rfl | rfl | rfl | rfl | rfl | rfl | rfl | rfl | rfl | rfl | rfl | rfl | rfl | rfl | rfl | rfl | rfl | rfl
  · exact w_c0
  · exact w_c1
  · exact w_c2
  · exact w_c3
  · exact w_c4
  · exact w_c5
  · exact w_c6
  · exact w_c7
  · exact w_c8
  · exact w_c9
  · exact w_c10
  · exact w_c11
  · exact w_c12
  · exact w_c13
  · exact w_c14
  · exact w_c15
  · exact w_c16
  · exact w_c17
  · exact w_c18
  · exact w_c19
  · exact w_c20
  · exact w_c21
  · exact w_c22
  · exact w_c23
  · exact w_c24
  · exact w_c25
  · exact w_c26
  · exact w_c27
  · exact w_c28
  · exact w_c29
  · exact w_c30
  · exact w_c31
  · exact w_c32
  · exact w_c33
  · exact w_c34
  · exact w_c35
  · exact w_c36
  · exact w_c37
  · exact w_c38
  · exact w_c39
set_option maxRecDepth 65536 in
theorem w_t1 : (words1.take 24).all (fun c => isCode c || c.before args0 about1) = true := by decide +kernel
set_option maxRecDepth 65536 in
theorem w_t2 : ((words1.drop 24).take 24).all (fun c => isCode c || c.before args0 about1) = true := by decide +kernel
set_option maxRecDepth 65536 in
theorem w_t3 : (((words1.drop 24).drop 24).take 24).all (fun c => isCode c || c.before args0 about1) = true := by decide +kernel
set_option maxRecDepth 65536 in
theorem w_t4 : ((((words1.drop 24).drop 24).drop 24).take 24).all (fun c => isCode c || c.before args0 about1) = true := by decide +kernel
set_option maxRecDepth 65536 in
theorem w_t5 : (((((words1.drop 24).drop 24).drop 24).drop 24).take 24).all (fun c => isCode c || c.before args0 about1) = true := by decide +kernel
set_option maxRecDepth 65536 in
theorem w_t6 : ((((((words1.drop 24).drop 24).drop 24).drop 24).drop 24).take 24).all (fun c => isCode c || c.before args0 about1) = true := by decide +kernel
set_option maxRecDepth 65536 in
theorem w_t7 : (((((((words1.drop 24).drop 24).drop 24).drop 24).drop 24).drop 24).take 24).all (fun c => isCode c || c.before args0 about1) = true := by decide +kernel
set_option maxRecDepth 65536 in
theorem w_t8 : ((((((((words1.drop 24).drop 24).drop 24).drop 24).drop 24).drop 24).drop 24).take 24).all (fun c => isCode c || c.before args0 about1) = true := by decide +kernel
set_option maxRecDepth 65536 in
theorem w_t9 : (((((((((words1.drop 24).drop 24).drop 24).drop 24).drop 24).drop 24).drop 24).drop 24).take 24).all (fun c => isCode c || c.before args0 about1) = true := by decide +kernel
set_option maxRecDepth 65536 in
theorem w_t10 : (((((((((words1.drop 24).drop 24).drop 24).drop 24).drop 24).drop 24).drop 24).drop 24).drop 24).all (fun c => isCode c || c.before args0 about1) = true := by decide +kernel
theorem w_tables : (allAtoms (Jvm.Cond.code x code maxLocals ret :: tables_1)).before args0 about1 = true := by
  rw [allAtoms_all]
  show words1.all (fun c => c.before args0 about1) = true
  refine all_split ?_ w_codes
  rw [← List.take_append_drop 24 words1, List.all_append, w_t1, ← List.take_append_drop 24 (words1.drop 24), List.all_append, w_t2, ← List.take_append_drop 24 ((words1.drop 24).drop 24), List.all_append, w_t3, ← List.take_append_drop 24 (((words1.drop 24).drop 24).drop 24), List.all_append, w_t4, ← List.take_append_drop 24 ((((words1.drop 24).drop 24).drop 24).drop 24), List.all_append, w_t5, ← List.take_append_drop 24 (((((words1.drop 24).drop 24).drop 24).drop 24).drop 24), List.all_append, w_t6, ← List.take_append_drop 24 ((((((words1.drop 24).drop 24).drop 24).drop 24).drop 24).drop 24), List.all_append, w_t7, ← List.take_append_drop 24 (((((((words1.drop 24).drop 24).drop 24).drop 24).drop 24).drop 24).drop 24), List.all_append, w_t8, ← List.take_append_drop 24 ((((((((words1.drop 24).drop 24).drop 24).drop 24).drop 24).drop 24).drop 24).drop 24), List.all_append, w_t9, w_t10]
  rfl
set_option maxRecDepth 65536 in
theorem w_rest : rest_1_c.before args0 about1 = true := by decide +kernel
set_option maxRecDepth 65536 in
theorem w_case : (Jvm.Cond.and given_1 narrow_1).before args0 about1 = true := by decide +kernel
set_option maxRecDepth 65536 in
theorem w_consts : constsHeld consts_1 about1 := Jvm.Lit.constsHeldB_iff.mp (by decide +kernel)
theorem w_applies : (headSpec (Jvm.Cond.code x code maxLocals ret :: tables_1) room_1).applies x e0.platform about1 = true :=
  (Spec.applies_iff w_frames).mpr ⟨w_running, w_runnable, w_alone, w_named, w_hears, w_ripe, w_room, w_tables⟩
theorem atStart : AtStart classFile x code maxLocals ret World_1 tables_1 room_1 Calls_1 rest_1 Pre_1 launch0 p0 e0 about1 theMethod args0 below0 :=
  ⟨lists_1, trivial, launch0.admits_env _ _ _, launch0.least_env, fairChoices_fair.cas, fairChoices_fair.clock, w_frames, w_args, w_heap, w_applies, ⟨w_consts, trivial⟩, w_rest, w_case⟩
end start1
theorem witness_1 : WitnessClaimed_1 := ⟨start1.p0, start1.e0, start1.about1, start1.theMethod, start1.args0, start1.below0, start1.atStart⟩
end Jvm.Pilot.@@N@@
