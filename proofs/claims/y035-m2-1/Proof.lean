import JvmDerived
import JvmDerived.Pilot.@@N@@Statement
import JvmDerived.Pilot.@@N@@Code
set_option linter.unusedVariables false
set_option linter.unusedSimpArgs false
namespace Jvm.RoadKit
open Sem ClassFile Op Lib Jvm.Stand Jvm.Free Jvm.LawKit
section New
variable {p : Program} {l : Launch} {e : Env} {R : Room} {s : State} {m : MethodId} {args : Array Value} {below : List Frame} {meth : Method} {c : Code} {T : State} {locs : List Loc} {cells slots : Nat}
theorem retI (X : Stand p l e R s m args below meth c T locs cells slots) (hx : p.tables.exec = Jvm.exec) {pc : Nat} {Ls : Array Slot} {z : Int32} {rest : List Value} (hret : meth.sig.returnType = some .int) (hd : decode c.code pc = .ok (.ireturn, 1)) {fs : List Frame}
    (hl : ∀ (f : JFrame) (acts : List Action), f.method = m → f.locked = none → f.entered = [] → (doReturn e (T.setTop f) acts (some (.int z))).1 = T.setFrames fs) : Steps p.tables e below (T.setTop (mkF m pc Ls (.int z :: rest))) (T.setFrames fs) := by
  have hm' : T.vm.method? m = some meth := X.method'
  have hn : narrow .int (.int z) = .int z := rfl
  show Steps p.tables e below (T.setTop { method := m, pc := pc, locals := Ls, stack := _ :: rest, locked := none }) _
  jvm_step X.here [X.here.top, hx, hd, hm', hret, hn]
  first | (intro acts; rw [hl _ acts rfl rfl rfl]) | rw [hl _ _ rfl rfl rfl]
  exact Steps.refl _
end New
end Jvm.RoadKit
namespace Jvm.Pilot.@@N@@
open Jvm Jvm.ClassFile Sem Op Lib Jvm.Free Jvm.Stand Jvm.LawKit Jvm.RoadKit Bundle Jvm.Pilot.@@N@@.Jvm.D
def own_QP (r : Option Value) (h0 : Heap) (n0 : Nat) (v : Option Value) (h : Heap) (L : List Loc) : Prop := v = r ∧ Fr n0 L ∧ h = h0
def own_Q0 (n0 : Nat) (v : Option Value) (h : Heap) (L : List Loc) : Prop := v = some (.int 1) ∧ Fr n0 L
section OwnWords
variable {args : Array Value} {s : State}
theorem own_eqI {t : Term} {k : Int32} (h : (Jvm.Cond.eq t (.int k)).value args s none s [] = some true) : t.eval args s none [] s = some (.int k) := by
  obtain ⟨x, y, h1, h2, h3, h4⟩ := cmp_v (Or.inl h)
  obtain rfl : y = .int k := (Option.some.inj h2).symm
  obtain ⟨z, rfl⟩ := h4
  have q := gotT (Cond.eq_ints h1 h2) h
  rw [h1, q]
theorem own_eqR {t u : Term} {b : Addr} (h : (Jvm.Cond.eq t u).value args s none s [] = some true) (hu : u.eval args s none [] s = some (.ref b)) : t.eval args s none [] s = some (.ref b) := by
  obtain ⟨x, y, h1, h2, h3, h4⟩ := cmp_v (Or.inl h)
  obtain rfl : y = .ref b := Option.some.inj (h2.symm.trans hu)
  have q := gotT (eq_R h1 h2 h4.2 h4.1) h
  rw [h1, q]
theorem own_fld {t : Term} {C n d : String} {a : Addr} {v : Value} (ht : t.eval args s none [] s = some (.ref a)) (h : (Term.field t C n d).eval args s none [] s = some v) : Fld s s.heap a C n d v := Fld.start ((fld_at ht).symm.trans h)
end OwnWords
theorem own_staKeep {Z : State} {h h' : Heap} {C n d : String} {v : Value} {ws : List Addr} (F : Sta Z h C n d v) (K : Keep h h' ws) (q : ∀ x ∈ ws, ∀ cell : Cell, h[x]? = some cell → cell.vm.isStatics = false) : Sta Z h' C n d v := by
  obtain ⟨cf, i, k, f, st, cell, h1, h2, h3, h4, h5, h6, h7⟩ := F
  refine ⟨cf, i, k, f, st, cell, h1, h2, h3, h4, K.2.1 st cell h5 (fun z => ?_), h6, h7⟩
  rw [q st z cell h5] at h6; cases h6
theorem own_g {P : Jvm.Cond → Prop} (hw : ∀ d ∈ tables_1, P d) (i : Nat) {d : Jvm.Cond} (h : tables_1[i]? = some d) : P d := hw d (List.mem_of_getElem? h)
abbrev own_y0 : MethodName := ⟨"java/lang/StringUTF16", "newBytesLength", "(I)I"⟩
abbrev own_y1 : MethodName := ⟨"java/lang/StringUTF16", "newBytesFor", "(I)[B"⟩
abbrev own_y2 : MethodName := ⟨"java/lang/StringUTF16", "putChar", "([BII)V"⟩
abbrev own_y3 : MethodName := ⟨"java/lang/StringUTF16", "getChar", "([BI)C"⟩
abbrev own_y4 : MethodName := ⟨"java/lang/StringUTF16", "toBytes", "([CII)[B"⟩
abbrev own_y5 : MethodName := ⟨"java/lang/StringUTF16", "compress", "([CI[BII)I"⟩
abbrev own_y6 : MethodName := ⟨"java/lang/StringUTF16", "compress", "([CII)[B"⟩
abbrev own_y7 : MethodName := ⟨"java/lang/StringUTF16", "coderFromArrayLen", "([BI)B"⟩
abbrev own_y8 : MethodName := ⟨"java/lang/String", "<init>", "([CIILjava/lang/Void;)V"⟩
abbrev own_y9 : MethodName := ⟨"java/lang/String", "<init>", "([C)V"⟩
abbrev own_y10 : MethodName := ⟨"com/example/apq/apq/jpql/TokenEndPinLaw", "makeText", "(ICCCC)Ljava/lang/String;"⟩
abbrev own_y11 : MethodName := ⟨"com/example/apq/apq/jpql/TokenEndPinLaw", "pickKind", "(I)Lcom/example/apq/apq/jpql/Token$Kind;"⟩
abbrev own_y12 : MethodName := ⟨"java/lang/Record", "<init>", "()V"⟩
abbrev own_y13 : MethodName := ⟨"com/example/apq/apq/jpql/Token", "<init>", "(Lcom/example/apq/apq/jpql/Token$Kind;Ljava/lang/String;I)V"⟩
abbrev own_y14 : MethodName := ⟨"java/lang/String", "coder", "()B"⟩
abbrev own_y15 : MethodName := ⟨"java/lang/String", "length", "()I"⟩
abbrev own_y16 : MethodName := ⟨"com/example/apq/apq/jpql/Token", "end", "()I"⟩
abbrev own_EL : List (String × Nat) := [("java/lang/String", 7)]
theorem own_hEL {Z : State} {a0 : Array Value} (hw : ∀ d ∈ tables_1, d.before a0 Z = true) : EW Z a0 own_EL := (EW.cons (own_g hw 94 rfl) (by decide) EW.nil)
def own_gc (x y : Int32) : Int32 := (nar .char ((((x &&& (255 : Int32)) <<< ((0 : Int32) &&& 31)) ||| ((y &&& (255 : Int32)) <<< ((8 : Int32) &&& 31))).toUInt32.toUInt16.toUInt32.toInt32))
def own_pk (p : Int32) (a0 a1 a2 a3 a4 a5 a6 : Addr) : Addr := if p = (0 : Int32) then a0 else if p = (1 : Int32) then a1 else if p = (2 : Int32) then a2 else if p = (3 : Int32) then a3 else if p = (4 : Int32) then a4 else if p = (5 : Int32) then a5 else a6
theorem own_nb {cd : Int32} (h : cd = 0 ∨ cd = 1) : nar .byte cd = cd := by rcases h with rfl | rfl <;> rfl
theorem own_nr (x : Int32) : ¬ (nar .char x) < 0 ∧ ¬ (65535 : Int32) < (nar .char x) := rng_char (fits_nar_char x)
theorem own_gp {c : Int32} (hr : ¬ c < 0 ∧ ¬ (65535 : Int32) < c) (h : (255 : Int32) < c) : (255 : Int32) < (own_gc (((c >>> ((0 : Int32) &&& 31)).toInt8.toInt32).toInt8.toInt32) (((c >>> ((8 : Int32) &&& 31)).toInt8.toInt32).toInt8.toInt32)) := by
  have z0 : (0 : Int32).toInt = 0 := rfl
  have z1 : (65535 : Int32).toInt = 65535 := rfl
  have z2 : (255 : Int32).toInt = 255 := rfl
  obtain ⟨hr1, hr2⟩ := hr
  rw [Int32.lt_iff_toInt_lt] at hr1 hr2 h ⊢
  unfold own_gc
  have s0 := c_ishr c (0 : Int32) 0 (by decide)
  have s8 := c_ishr c (8 : Int32) 8 (by decide)
  generalize (c >>> ((0 : Int32) &&& 31)) = A at *
  generalize (c >>> ((8 : Int32) &&& 31)) = B at *
  have a1 := c_i2b A
  have b1 := c_i2b B
  generalize A.toInt8.toInt32 = A1 at *
  generalize B.toInt8.toInt32 = B1 at *
  have a2 := c_i2b A1
  have b2 := c_i2b B1
  generalize A1.toInt8.toInt32 = A2 at *
  generalize B1.toInt8.toInt32 = B2 at *
  have a3 := c_mask A2 (255 : Int32) 8 (by decide) (by decide)
  have b3 := c_mask B2 (255 : Int32) 8 (by decide) (by decide)
  generalize (A2 &&& (255 : Int32)) = A3 at *
  generalize (B2 &&& (255 : Int32)) = B3 at *
  have a4 := c_ishl A3 (0 : Int32) 0 (by decide)
  have b4 := c_ishl B3 (8 : Int32) 8 (by decide)
  have ra := rng32 (A3 <<< ((0 : Int32) &&& 31))
  have rb := rng32 (B3 <<< ((8 : Int32) &&& 31))
  generalize (A3 <<< ((0 : Int32) &&& 31)) = A4 at *
  generalize (B3 <<< ((8 : Int32) &&& 31)) = B4 at *
  have ea : A4.toInt = c.toInt % 256 := by omega
  have eb : B4.toInt = (c.toInt / 256) * 256 := by omega
  have o := c_or' A4 B4 8 (by decide) 256 (by decide) (by omega) (by omega) (by omega)
  have ro := rng32 (A4 ||| B4)
  generalize (A4 ||| B4) = O at *
  have eo : O.toInt = c.toInt := by omega
  have n1 := c_i2c O
  have eO : nar .char O.toUInt32.toUInt16.toUInt32.toInt32 = O.toUInt32.toUInt16.toUInt32.toInt32.toUInt32.toUInt16.toUInt32.toInt32 := rfl
  have n2 := c_i2c O.toUInt32.toUInt16.toUInt32.toInt32
  rw [eO]
  omega
theorem own_mod5 (a : Int32) : ((a &&& (2147483647 : Int32)) % (5 : Int32)) = (0 : Int32) ∨ ((a &&& (2147483647 : Int32)) % (5 : Int32)) = (1 : Int32) ∨ ((a &&& (2147483647 : Int32)) % (5 : Int32)) = (2 : Int32) ∨ ((a &&& (2147483647 : Int32)) % (5 : Int32)) = (3 : Int32) ∨ ((a &&& (2147483647 : Int32)) % (5 : Int32)) = (4 : Int32) := by
  have h := c_mask a (2147483647 : Int32) 31 (by decide) (by decide)
  have q := (c_irem (a &&& (2147483647 : Int32)) (5 : Int32) 5 (by decide)).1 (by omega)
  simp only [← Int32.toInt_inj, Int32.reduceToInt]
  omega
/-- a String whose value is null is none of the literals that the tables book -/
theorem own_safeN {Z : State} {EL : List (String × Nat)} {vm : Vm} {h : Heap} {x : Addr} (hal : Z.vm.Alike vm) (E : Exa Z h x "java/lang/String") (F : Fld Z h x "java/lang/String" "value" "[B" .null) : Safe Z EL vm h x := fun B => by
  obtain ⟨pr, -, u, a, -, q, -, FB, hy⟩ := B
  have ha := FB.ha
  have hd := FB.hd
  obtain ⟨cS, ⟨⟨-, -, -, ⟨c1, k1, i1, f1, -⟩, -, -, -, v1, -⟩, -⟩, -, hB, -⟩ := FB
  rcases hy with rfl | rfl
  · obtain ⟨cell, cf, k, i, f, g1, g2, -, -, -, -, g7⟩ := F
    obtain ⟨k3, e3, -⟩ := State.fieldFound?_setVm (s := Z) hal g2
    have e4 := (show (Wst Z vm h).fieldFound? _ _ _ = _ from e3).symm.trans f1
    simp only [Option.some.injEq, Prod.mk.injEq] at e4
    cases g1.symm.trans (show h[q.sa]? = some q.sC from ha)
    rw [← e4.2.2.2, g7] at v1
    cases v1
  · obtain ⟨cell, k, g1, g2, -⟩ := E
    cases g1.symm.trans (show h[q.sd]? = some q.SA from hd)
    have hB' : vm.findClass "[B" = some q.SA.cls := hB
    rw [hal.findClass] at hB'
    exact absurd rfl (ids_ne g2 hB' (by decide))
theorem d9_0 : decode jdk_52_method_3_code 0 = .ok (.iload_n 0, 1) := by decide +kernel
theorem d9_1 : decode jdk_52_method_3_code 1 = .ok (.ifCond .ge 11, 3) := by decide +kernel
theorem d9_12 : decode jdk_52_method_3_code 12 = .ok (.iload_n 0, 1) := by decide +kernel
theorem d9_13 : decode jdk_52_method_3_code 13 = .ok (.ldc 20, 2) := by decide +kernel
theorem d9_15 : decode jdk_52_method_3_code 15 = .ok (.if_icmp .lt 40, 3) := by decide +kernel
theorem d9_55 : decode jdk_52_method_3_code 55 = .ok (.iload_n 0, 1) := by decide +kernel
theorem d9_56 : decode jdk_52_method_3_code 56 = .ok (.iconst 1, 1) := by decide +kernel
theorem d9_57 : decode jdk_52_method_3_code 57 = .ok (.ishl, 1) := by decide +kernel
theorem d9_58 : decode jdk_52_method_3_code 58 = .ok (.ireturn, 1) := by decide +kernel
theorem pn_9 : plainName "java/lang/StringUTF16" = true := by first | (simp [plainName, overriddenIn]; done) | decide +kernel
theorem d8_0 : decode jdk_52_method_2_code 0 = .ok (.iload_n 0, 1) := by decide +kernel
theorem d8_1 : decode jdk_52_method_2_code 1 = .ok (.invokestatic 11, 3) := by decide +kernel
theorem pd__I_I : parseMethodDescriptor "(I)I" = some ⟨[.int], some .int⟩ := by decide +kernel
theorem d8_4 : decode jdk_52_method_2_code 4 = .ok (.newarray .byte, 2) := by decide +kernel
theorem d8_6 : decode jdk_52_method_2_code 6 = .ok (.areturn, 1) := by decide +kernel
theorem pn_8 : plainName "java/lang/StringUTF16" = true := by first | (simp [plainName, overriddenIn]; done) | decide +kernel
theorem d10_0 : decode jdk_52_method_4_code 0 = .ok (.getstatic 44, 3) := by decide +kernel
theorem d10_3 : decode jdk_52_method_4_code 3 = .ok (.ifCond .ne 25, 3) := by decide +kernel
theorem d10_28 : decode jdk_52_method_4_code 28 = .ok (.iload_n 1, 1) := by decide +kernel
theorem d10_29 : decode jdk_52_method_4_code 29 = .ok (.iconst 1, 1) := by decide +kernel
theorem d10_30 : decode jdk_52_method_4_code 30 = .ok (.ishl, 1) := by decide +kernel
theorem d10_31 : decode jdk_52_method_4_code 31 = .ok (.istore_n 1, 1) := by decide +kernel
theorem d10_32 : decode jdk_52_method_4_code 32 = .ok (.aload_n 0, 1) := by decide +kernel
theorem d10_33 : decode jdk_52_method_4_code 33 = .ok (.iload_n 1, 1) := by decide +kernel
theorem d10_34 : decode jdk_52_method_4_code 34 = .ok (.iinc 1 1, 3) := by decide +kernel
theorem d10_37 : decode jdk_52_method_4_code 37 = .ok (.iload_n 2, 1) := by decide +kernel
theorem d10_38 : decode jdk_52_method_4_code 38 = .ok (.getstatic 59, 3) := by decide +kernel
theorem d10_41 : decode jdk_52_method_4_code 41 = .ok (.ishr, 1) := by decide +kernel
theorem d10_42 : decode jdk_52_method_4_code 42 = .ok (.i2b, 1) := by decide +kernel
theorem d10_43 : decode jdk_52_method_4_code 43 = .ok (.bastore, 1) := by decide +kernel
theorem d10_44 : decode jdk_52_method_4_code 44 = .ok (.aload_n 0, 1) := by decide +kernel
theorem d10_45 : decode jdk_52_method_4_code 45 = .ok (.iload_n 1, 1) := by decide +kernel
theorem d10_46 : decode jdk_52_method_4_code 46 = .ok (.iload_n 2, 1) := by decide +kernel
theorem d10_47 : decode jdk_52_method_4_code 47 = .ok (.getstatic 63, 3) := by decide +kernel
theorem d10_50 : decode jdk_52_method_4_code 50 = .ok (.ishr, 1) := by decide +kernel
theorem d10_51 : decode jdk_52_method_4_code 51 = .ok (.i2b, 1) := by decide +kernel
theorem d10_52 : decode jdk_52_method_4_code 52 = .ok (.bastore, 1) := by decide +kernel
theorem d10_53 : decode jdk_52_method_4_code 53 = .ok (.return_, 1) := by decide +kernel
theorem pn_10 : plainName "java/lang/StringUTF16" = true := by first | (simp [plainName, overriddenIn]; done) | decide +kernel
theorem d11_0 : decode jdk_52_method_5_code 0 = .ok (.getstatic 44, 3) := by decide +kernel
theorem d11_3 : decode jdk_52_method_5_code 3 = .ok (.ifCond .ne 25, 3) := by decide +kernel
theorem d11_28 : decode jdk_52_method_5_code 28 = .ok (.iload_n 1, 1) := by decide +kernel
theorem d11_29 : decode jdk_52_method_5_code 29 = .ok (.iconst 1, 1) := by decide +kernel
theorem d11_30 : decode jdk_52_method_5_code 30 = .ok (.ishl, 1) := by decide +kernel
theorem d11_31 : decode jdk_52_method_5_code 31 = .ok (.istore_n 1, 1) := by decide +kernel
theorem d11_32 : decode jdk_52_method_5_code 32 = .ok (.aload_n 0, 1) := by decide +kernel
theorem d11_33 : decode jdk_52_method_5_code 33 = .ok (.iload_n 1, 1) := by decide +kernel
theorem d11_34 : decode jdk_52_method_5_code 34 = .ok (.iinc 1 1, 3) := by decide +kernel
theorem d11_37 : decode jdk_52_method_5_code 37 = .ok (.baload, 1) := by decide +kernel
theorem d11_38 : decode jdk_52_method_5_code 38 = .ok (.sipush 255, 3) := by decide +kernel
theorem d11_41 : decode jdk_52_method_5_code 41 = .ok (.iand, 1) := by decide +kernel
theorem d11_42 : decode jdk_52_method_5_code 42 = .ok (.getstatic 59, 3) := by decide +kernel
theorem d11_45 : decode jdk_52_method_5_code 45 = .ok (.ishl, 1) := by decide +kernel
theorem d11_46 : decode jdk_52_method_5_code 46 = .ok (.aload_n 0, 1) := by decide +kernel
theorem d11_47 : decode jdk_52_method_5_code 47 = .ok (.iload_n 1, 1) := by decide +kernel
theorem d11_48 : decode jdk_52_method_5_code 48 = .ok (.baload, 1) := by decide +kernel
theorem d11_49 : decode jdk_52_method_5_code 49 = .ok (.sipush 255, 3) := by decide +kernel
theorem d11_52 : decode jdk_52_method_5_code 52 = .ok (.iand, 1) := by decide +kernel
theorem d11_53 : decode jdk_52_method_5_code 53 = .ok (.getstatic 63, 3) := by decide +kernel
theorem d11_56 : decode jdk_52_method_5_code 56 = .ok (.ishl, 1) := by decide +kernel
theorem d11_57 : decode jdk_52_method_5_code 57 = .ok (.ior, 1) := by decide +kernel
theorem d11_58 : decode jdk_52_method_5_code 58 = .ok (.i2c, 1) := by decide +kernel
theorem d11_59 : decode jdk_52_method_5_code 59 = .ok (.ireturn, 1) := by decide +kernel
theorem pn_11 : plainName "java/lang/StringUTF16" = true := by first | (simp [plainName, overriddenIn]; done) | decide +kernel
theorem d7_0 : decode jdk_52_method_14_code 0 = .ok (.iload_n 2, 1) := by decide +kernel
theorem d7_1 : decode jdk_52_method_14_code 1 = .ok (.invokestatic 107, 3) := by decide +kernel
theorem pd__I__B : parseMethodDescriptor "(I)[B" = some ⟨[.int], some (.array .byte)⟩ := by decide +kernel
theorem d7_4 : decode jdk_52_method_14_code 4 = .ok (.astore_n 3, 1) := by decide +kernel
theorem d7_5 : decode jdk_52_method_14_code 5 = .ok (.iconst 0, 1) := by decide +kernel
theorem d7_6 : decode jdk_52_method_14_code 6 = .ok (.istore 4, 2) := by decide +kernel
theorem d7_8 : decode jdk_52_method_14_code 8 = .ok (.iload 4, 2) := by decide +kernel
theorem d7_10 : decode jdk_52_method_14_code 10 = .ok (.iload_n 2, 1) := by decide +kernel
theorem d7_11 : decode jdk_52_method_14_code 11 = .ok (.if_icmp .ge 21, 3) := by decide +kernel
theorem d7_14 : decode jdk_52_method_14_code 14 = .ok (.aload_n 3, 1) := by decide +kernel
theorem d7_15 : decode jdk_52_method_14_code 15 = .ok (.iload 4, 2) := by decide +kernel
theorem d7_17 : decode jdk_52_method_14_code 17 = .ok (.aload_n 0, 1) := by decide +kernel
theorem d7_18 : decode jdk_52_method_14_code 18 = .ok (.iload_n 1, 1) := by decide +kernel
theorem d7_19 : decode jdk_52_method_14_code 19 = .ok (.caload, 1) := by decide +kernel
theorem d7_20 : decode jdk_52_method_14_code 20 = .ok (.invokestatic 111, 3) := by decide +kernel
theorem pd___BII_V : parseMethodDescriptor "([BII)V" = some ⟨[(.array .byte), .int, .int], none⟩ := by decide +kernel
theorem d7_23 : decode jdk_52_method_14_code 23 = .ok (.iinc 1 1, 3) := by decide +kernel
theorem d7_26 : decode jdk_52_method_14_code 26 = .ok (.iinc 4 1, 3) := by decide +kernel
theorem d7_29 : decode jdk_52_method_14_code 29 = .ok (.goto (-21), 3) := by decide +kernel
theorem d7_32 : decode jdk_52_method_14_code 32 = .ok (.aload_n 3, 1) := by decide +kernel
theorem d7_33 : decode jdk_52_method_14_code 33 = .ok (.areturn, 1) := by decide +kernel
theorem pn_7 : plainName "java/lang/StringUTF16" = true := by first | (simp [plainName, overriddenIn]; done) | decide +kernel
theorem d6_0 : decode jdk_52_method_21_code 0 = .ok (.iconst 0, 1) := by decide +kernel
theorem d6_1 : decode jdk_52_method_21_code 1 = .ok (.istore 5, 2) := by decide +kernel
theorem d6_3 : decode jdk_52_method_21_code 3 = .ok (.iload 5, 2) := by decide +kernel
theorem d6_5 : decode jdk_52_method_21_code 5 = .ok (.iload 4, 2) := by decide +kernel
theorem d6_7 : decode jdk_52_method_21_code 7 = .ok (.if_icmp .ge 37, 3) := by decide +kernel
theorem d6_10 : decode jdk_52_method_21_code 10 = .ok (.aload_n 0, 1) := by decide +kernel
theorem d6_11 : decode jdk_52_method_21_code 11 = .ok (.iload_n 1, 1) := by decide +kernel
theorem d6_12 : decode jdk_52_method_21_code 12 = .ok (.caload, 1) := by decide +kernel
theorem d6_13 : decode jdk_52_method_21_code 13 = .ok (.istore 6, 2) := by decide +kernel
theorem d6_15 : decode jdk_52_method_21_code 15 = .ok (.iload 6, 2) := by decide +kernel
theorem d6_17 : decode jdk_52_method_21_code 17 = .ok (.sipush 255, 3) := by decide +kernel
theorem d6_20 : decode jdk_52_method_21_code 20 = .ok (.if_icmp .le 6, 3) := by decide +kernel
theorem d6_23 : decode jdk_52_method_21_code 23 = .ok (.iload 5, 2) := by decide +kernel
theorem d6_25 : decode jdk_52_method_21_code 25 = .ok (.ireturn, 1) := by decide +kernel
theorem pn_6 : plainName "java/lang/StringUTF16" = true := by first | (simp [plainName, overriddenIn]; done) | decide +kernel
theorem d6_26 : decode jdk_52_method_21_code 26 = .ok (.aload_n 2, 1) := by decide +kernel
theorem d6_27 : decode jdk_52_method_21_code 27 = .ok (.iload_n 3, 1) := by decide +kernel
theorem d6_28 : decode jdk_52_method_21_code 28 = .ok (.iload 6, 2) := by decide +kernel
theorem d6_30 : decode jdk_52_method_21_code 30 = .ok (.i2b, 1) := by decide +kernel
theorem d6_31 : decode jdk_52_method_21_code 31 = .ok (.bastore, 1) := by decide +kernel
theorem d6_32 : decode jdk_52_method_21_code 32 = .ok (.iinc 1 1, 3) := by decide +kernel
theorem d6_35 : decode jdk_52_method_21_code 35 = .ok (.iinc 3 1, 3) := by decide +kernel
theorem d6_38 : decode jdk_52_method_21_code 38 = .ok (.iinc 5 1, 3) := by decide +kernel
theorem d6_41 : decode jdk_52_method_21_code 41 = .ok (.goto (-38), 3) := by decide +kernel
theorem d6_44 : decode jdk_52_method_21_code 44 = .ok (.iload 4, 2) := by decide +kernel
theorem d6_46 : decode jdk_52_method_21_code 46 = .ok (.ireturn, 1) := by decide +kernel
theorem d5_0 : decode jdk_52_method_16_code 0 = .ok (.iload_n 2, 1) := by decide +kernel
theorem d5_1 : decode jdk_52_method_16_code 1 = .ok (.newarray .byte, 2) := by decide +kernel
theorem d5_3 : decode jdk_52_method_16_code 3 = .ok (.astore_n 3, 1) := by decide +kernel
theorem d5_4 : decode jdk_52_method_16_code 4 = .ok (.aload_n 0, 1) := by decide +kernel
theorem d5_5 : decode jdk_52_method_16_code 5 = .ok (.iload_n 1, 1) := by decide +kernel
theorem d5_6 : decode jdk_52_method_16_code 6 = .ok (.aload_n 3, 1) := by decide +kernel
theorem d5_7 : decode jdk_52_method_16_code 7 = .ok (.iconst 0, 1) := by decide +kernel
theorem d5_8 : decode jdk_52_method_16_code 8 = .ok (.iload_n 2, 1) := by decide +kernel
theorem d5_9 : decode jdk_52_method_16_code 9 = .ok (.invokestatic 115, 3) := by decide +kernel
theorem pd___CI_BII_I : parseMethodDescriptor "([CI[BII)I" = some ⟨[(.array .char), .int, (.array .byte), .int, .int], some .int⟩ := by decide +kernel
theorem d5_12 : decode jdk_52_method_16_code 12 = .ok (.istore 4, 2) := by decide +kernel
theorem d5_14 : decode jdk_52_method_16_code 14 = .ok (.iload 4, 2) := by decide +kernel
theorem d5_16 : decode jdk_52_method_16_code 16 = .ok (.iload_n 2, 1) := by decide +kernel
theorem d5_17 : decode jdk_52_method_16_code 17 = .ok (.if_icmp .eq 40, 3) := by decide +kernel
theorem d5_20 : decode jdk_52_method_16_code 20 = .ok (.aload_n 0, 1) := by decide +kernel
theorem d5_21 : decode jdk_52_method_16_code 21 = .ok (.iload_n 1, 1) := by decide +kernel
theorem d5_22 : decode jdk_52_method_16_code 22 = .ok (.iload_n 2, 1) := by decide +kernel
theorem d5_23 : decode jdk_52_method_16_code 23 = .ok (.invokestatic 119, 3) := by decide +kernel
theorem pd___CII__B : parseMethodDescriptor "([CII)[B" = some ⟨[(.array .char), .int, .int], some (.array .byte)⟩ := by decide +kernel
theorem d5_26 : decode jdk_52_method_16_code 26 = .ok (.astore 5, 2) := by decide +kernel
theorem d5_28 : decode jdk_52_method_16_code 28 = .ok (.aload 5, 2) := by decide +kernel
theorem d5_30 : decode jdk_52_method_16_code 30 = .ok (.iload 4, 2) := by decide +kernel
theorem d5_32 : decode jdk_52_method_16_code 32 = .ok (.invokestatic 71, 3) := by decide +kernel
theorem pd___BI_C : parseMethodDescriptor "([BI)C" = some ⟨[(.array .byte), .int], some .char⟩ := by decide +kernel
theorem d5_35 : decode jdk_52_method_16_code 35 = .ok (.sipush 255, 3) := by decide +kernel
theorem d5_38 : decode jdk_52_method_16_code 38 = .ok (.if_icmp .gt 16, 3) := by decide +kernel
theorem d5_54 : decode jdk_52_method_16_code 54 = .ok (.aload 5, 2) := by decide +kernel
theorem d5_56 : decode jdk_52_method_16_code 56 = .ok (.areturn, 1) := by decide +kernel
theorem d5_57 : decode jdk_52_method_16_code 57 = .ok (.aload_n 3, 1) := by decide +kernel
theorem d5_58 : decode jdk_52_method_16_code 58 = .ok (.areturn, 1) := by decide +kernel
theorem pn_5 : plainName "java/lang/StringUTF16" = true := by first | (simp [plainName, overriddenIn]; done) | decide +kernel
theorem d12_0 : decode jdk_52_method_15_code 0 = .ok (.iload_n 1, 1) := by decide +kernel
theorem d12_1 : decode jdk_52_method_15_code 1 = .ok (.aload_n 0, 1) := by decide +kernel
theorem d12_2 : decode jdk_52_method_15_code 2 = .ok (.arraylength, 1) := by decide +kernel
theorem d12_3 : decode jdk_52_method_15_code 3 = .ok (.isub, 1) := by decide +kernel
theorem d12_4 : decode jdk_52_method_15_code 4 = .ok (.bipush 31, 2) := by decide +kernel
theorem d12_6 : decode jdk_52_method_15_code 6 = .ok (.iushr, 1) := by decide +kernel
theorem d12_7 : decode jdk_52_method_15_code 7 = .ok (.i2b, 1) := by decide +kernel
theorem d12_8 : decode jdk_52_method_15_code 8 = .ok (.ireturn, 1) := by decide +kernel
theorem pn_12 : plainName "java/lang/StringUTF16" = true := by first | (simp [plainName, overriddenIn]; done) | decide +kernel
theorem d3_0 : decode jdk_42_method_149_code 0 = .ok (.aload_n 0, 1) := by decide +kernel
theorem d3_1 : decode jdk_42_method_149_code 1 = .ok (.invokespecial 1, 3) := by decide +kernel
theorem d3_4 : decode jdk_42_method_149_code 4 = .ok (.iload_n 3, 1) := by decide +kernel
theorem d3_5 : decode jdk_42_method_149_code 5 = .ok (.ifCond .ne 22, 3) := by decide +kernel
theorem d3_27 : decode jdk_42_method_149_code 27 = .ok (.getstatic 38, 3) := by decide +kernel
theorem d3_30 : decode jdk_42_method_149_code 30 = .ok (.ifCond .eq 28, 3) := by decide +kernel
theorem d3_33 : decode jdk_42_method_149_code 33 = .ok (.aload_n 1, 1) := by decide +kernel
theorem d3_34 : decode jdk_42_method_149_code 34 = .ok (.iload_n 2, 1) := by decide +kernel
theorem d3_35 : decode jdk_42_method_149_code 35 = .ok (.iload_n 3, 1) := by decide +kernel
theorem d3_36 : decode jdk_42_method_149_code 36 = .ok (.invokestatic 177, 3) := by decide +kernel
theorem d3_39 : decode jdk_42_method_149_code 39 = .ok (.astore 5, 2) := by decide +kernel
theorem d3_41 : decode jdk_42_method_149_code 41 = .ok (.aload_n 0, 1) := by decide +kernel
theorem d3_42 : decode jdk_42_method_149_code 42 = .ok (.aload 5, 2) := by decide +kernel
theorem d3_44 : decode jdk_42_method_149_code 44 = .ok (.iload_n 3, 1) := by decide +kernel
theorem d3_45 : decode jdk_42_method_149_code 45 = .ok (.invokestatic 47, 3) := by decide +kernel
theorem pd___BI_B : parseMethodDescriptor "([BI)B" = some ⟨[(.array .byte), .int], some .byte⟩ := by decide +kernel
theorem d3_48 : decode jdk_42_method_149_code 48 = .ok (.putfield 15, 3) := by decide +kernel
theorem d3_51 : decode jdk_42_method_149_code 51 = .ok (.aload_n 0, 1) := by decide +kernel
theorem d3_52 : decode jdk_42_method_149_code 52 = .ok (.aload 5, 2) := by decide +kernel
theorem d3_54 : decode jdk_42_method_149_code 54 = .ok (.putfield 9, 3) := by decide +kernel
theorem d3_57 : decode jdk_42_method_149_code 57 = .ok (.return_, 1) := by decide +kernel
theorem pn_3 : plainName "java/lang/String" = true := by first | (simp [plainName, overriddenIn]; done) | decide +kernel
theorem d2_0 : decode jdk_42_method_3_code 0 = .ok (.aload_n 0, 1) := by decide +kernel
theorem d2_1 : decode jdk_42_method_3_code 1 = .ok (.aload_n 1, 1) := by decide +kernel
theorem d2_2 : decode jdk_42_method_3_code 2 = .ok (.iconst 0, 1) := by decide +kernel
theorem d2_3 : decode jdk_42_method_3_code 3 = .ok (.aload_n 1, 1) := by decide +kernel
theorem d2_4 : decode jdk_42_method_3_code 4 = .ok (.arraylength, 1) := by decide +kernel
theorem d2_5 : decode jdk_42_method_3_code 5 = .ok (.aconst_null, 1) := by decide +kernel
theorem d2_6 : decode jdk_42_method_3_code 6 = .ok (.invokespecial 27, 3) := by decide +kernel
theorem pd___CIILjava_lang_Void__V : parseMethodDescriptor "([CIILjava/lang/Void;)V" = some ⟨[(.array .char), .int, .int, (.object "java/lang/Void")], none⟩ := by decide +kernel
theorem d2_9 : decode jdk_42_method_3_code 9 = .ok (.return_, 1) := by decide +kernel
theorem pn_2 : plainName "java/lang/String" = true := by first | (simp [plainName, overriddenIn]; done) | decide +kernel
theorem d1_0 : decode method_3_code 0 = .ok (.iload_n 0, 1) := by decide +kernel
theorem d1_1 : decode method_3_code 1 = .ok (.ifCond .ne 14, 3) := by decide +kernel
theorem d1_15 : decode method_3_code 15 = .ok (.iload_n 0, 1) := by decide +kernel
theorem d1_16 : decode method_3_code 16 = .ok (.iconst 1, 1) := by decide +kernel
theorem d1_17 : decode method_3_code 17 = .ok (.if_icmp .ne 18, 3) := by decide +kernel
theorem d1_20 : decode method_3_code 20 = .ok (.new 29, 3) := by decide +kernel
theorem d1_23 : decode method_3_code 23 = .ok (.dup, 1) := by decide +kernel
theorem d1_24 : decode method_3_code 24 = .ok (.iconst 1, 1) := by decide +kernel
theorem d1_25 : decode method_3_code 25 = .ok (.newarray .char, 2) := by decide +kernel
theorem d1_27 : decode method_3_code 27 = .ok (.dup, 1) := by decide +kernel
theorem d1_28 : decode method_3_code 28 = .ok (.iconst 0, 1) := by decide +kernel
theorem d1_29 : decode method_3_code 29 = .ok (.iload_n 1, 1) := by decide +kernel
theorem d1_30 : decode method_3_code 30 = .ok (.castore, 1) := by decide +kernel
theorem d1_31 : decode method_3_code 31 = .ok (.invokespecial 31, 3) := by decide +kernel
theorem pd___C_V : parseMethodDescriptor "([C)V" = some ⟨[(.array .char)], none⟩ := by decide +kernel
theorem d1_34 : decode method_3_code 34 = .ok (.areturn, 1) := by decide +kernel
theorem pn_1 : plainName "com/example/apq/apq/jpql/TokenEndPinLaw" = true := by first | (simp [plainName, overriddenIn]; done) | decide +kernel
theorem d1_35 : decode method_3_code 35 = .ok (.iload_n 0, 1) := by decide +kernel
theorem d1_36 : decode method_3_code 36 = .ok (.iconst 2, 1) := by decide +kernel
theorem d1_37 : decode method_3_code 37 = .ok (.if_icmp .ne 22, 3) := by decide +kernel
theorem d1_40 : decode method_3_code 40 = .ok (.new 29, 3) := by decide +kernel
theorem d1_43 : decode method_3_code 43 = .ok (.dup, 1) := by decide +kernel
theorem d1_44 : decode method_3_code 44 = .ok (.iconst 2, 1) := by decide +kernel
theorem d1_45 : decode method_3_code 45 = .ok (.newarray .char, 2) := by decide +kernel
theorem d1_47 : decode method_3_code 47 = .ok (.dup, 1) := by decide +kernel
theorem d1_48 : decode method_3_code 48 = .ok (.iconst 0, 1) := by decide +kernel
theorem d1_49 : decode method_3_code 49 = .ok (.iload_n 1, 1) := by decide +kernel
theorem d1_50 : decode method_3_code 50 = .ok (.castore, 1) := by decide +kernel
theorem d1_51 : decode method_3_code 51 = .ok (.dup, 1) := by decide +kernel
theorem d1_52 : decode method_3_code 52 = .ok (.iconst 1, 1) := by decide +kernel
theorem d1_53 : decode method_3_code 53 = .ok (.iload_n 2, 1) := by decide +kernel
theorem d1_54 : decode method_3_code 54 = .ok (.castore, 1) := by decide +kernel
theorem d1_55 : decode method_3_code 55 = .ok (.invokespecial 31, 3) := by decide +kernel
theorem d1_58 : decode method_3_code 58 = .ok (.areturn, 1) := by decide +kernel
theorem d1_59 : decode method_3_code 59 = .ok (.iload_n 0, 1) := by decide +kernel
theorem d1_60 : decode method_3_code 60 = .ok (.iconst 3, 1) := by decide +kernel
theorem d1_61 : decode method_3_code 61 = .ok (.if_icmp .ne 26, 3) := by decide +kernel
theorem d1_64 : decode method_3_code 64 = .ok (.new 29, 3) := by decide +kernel
theorem d1_67 : decode method_3_code 67 = .ok (.dup, 1) := by decide +kernel
theorem d1_68 : decode method_3_code 68 = .ok (.iconst 3, 1) := by decide +kernel
theorem d1_69 : decode method_3_code 69 = .ok (.newarray .char, 2) := by decide +kernel
theorem d1_71 : decode method_3_code 71 = .ok (.dup, 1) := by decide +kernel
theorem d1_72 : decode method_3_code 72 = .ok (.iconst 0, 1) := by decide +kernel
theorem d1_73 : decode method_3_code 73 = .ok (.iload_n 1, 1) := by decide +kernel
theorem d1_74 : decode method_3_code 74 = .ok (.castore, 1) := by decide +kernel
theorem d1_75 : decode method_3_code 75 = .ok (.dup, 1) := by decide +kernel
theorem d1_76 : decode method_3_code 76 = .ok (.iconst 1, 1) := by decide +kernel
theorem d1_77 : decode method_3_code 77 = .ok (.iload_n 2, 1) := by decide +kernel
theorem d1_78 : decode method_3_code 78 = .ok (.castore, 1) := by decide +kernel
theorem d1_79 : decode method_3_code 79 = .ok (.dup, 1) := by decide +kernel
theorem d1_80 : decode method_3_code 80 = .ok (.iconst 2, 1) := by decide +kernel
theorem d1_81 : decode method_3_code 81 = .ok (.iload_n 3, 1) := by decide +kernel
theorem d1_82 : decode method_3_code 82 = .ok (.castore, 1) := by decide +kernel
theorem d1_83 : decode method_3_code 83 = .ok (.invokespecial 31, 3) := by decide +kernel
theorem d1_86 : decode method_3_code 86 = .ok (.areturn, 1) := by decide +kernel
theorem d1_87 : decode method_3_code 87 = .ok (.new 29, 3) := by decide +kernel
theorem d1_90 : decode method_3_code 90 = .ok (.dup, 1) := by decide +kernel
theorem d1_91 : decode method_3_code 91 = .ok (.iconst 4, 1) := by decide +kernel
theorem d1_92 : decode method_3_code 92 = .ok (.newarray .char, 2) := by decide +kernel
theorem d1_94 : decode method_3_code 94 = .ok (.dup, 1) := by decide +kernel
theorem d1_95 : decode method_3_code 95 = .ok (.iconst 0, 1) := by decide +kernel
theorem d1_96 : decode method_3_code 96 = .ok (.iload_n 1, 1) := by decide +kernel
theorem d1_97 : decode method_3_code 97 = .ok (.castore, 1) := by decide +kernel
theorem d1_98 : decode method_3_code 98 = .ok (.dup, 1) := by decide +kernel
theorem d1_99 : decode method_3_code 99 = .ok (.iconst 1, 1) := by decide +kernel
theorem d1_100 : decode method_3_code 100 = .ok (.iload_n 2, 1) := by decide +kernel
theorem d1_101 : decode method_3_code 101 = .ok (.castore, 1) := by decide +kernel
theorem d1_102 : decode method_3_code 102 = .ok (.dup, 1) := by decide +kernel
theorem d1_103 : decode method_3_code 103 = .ok (.iconst 2, 1) := by decide +kernel
theorem d1_104 : decode method_3_code 104 = .ok (.iload_n 3, 1) := by decide +kernel
theorem d1_105 : decode method_3_code 105 = .ok (.castore, 1) := by decide +kernel
theorem d1_106 : decode method_3_code 106 = .ok (.dup, 1) := by decide +kernel
theorem d1_107 : decode method_3_code 107 = .ok (.iconst 3, 1) := by decide +kernel
theorem d1_108 : decode method_3_code 108 = .ok (.iload 4, 2) := by decide +kernel
theorem d1_110 : decode method_3_code 110 = .ok (.castore, 1) := by decide +kernel
theorem d1_111 : decode method_3_code 111 = .ok (.invokespecial 31, 3) := by decide +kernel
theorem d1_114 : decode method_3_code 114 = .ok (.areturn, 1) := by decide +kernel
theorem d3_8 : decode jdk_42_method_149_code 8 = .ok (.aload_n 0, 1) := by decide +kernel
theorem d3_9 : decode jdk_42_method_149_code 9 = .ok (.ldc 7, 2) := by decide +kernel
theorem d3_11 : decode jdk_42_method_149_code 11 = .ok (.getfield 9, 3) := by decide +kernel
theorem d3_14 : decode jdk_42_method_149_code 14 = .ok (.putfield 9, 3) := by decide +kernel
theorem d3_17 : decode jdk_42_method_149_code 17 = .ok (.aload_n 0, 1) := by decide +kernel
theorem d3_18 : decode jdk_42_method_149_code 18 = .ok (.ldc 7, 2) := by decide +kernel
theorem d3_20 : decode jdk_42_method_149_code 20 = .ok (.getfield 15, 3) := by decide +kernel
theorem d3_23 : decode jdk_42_method_149_code 23 = .ok (.putfield 15, 3) := by decide +kernel
theorem d3_26 : decode jdk_42_method_149_code 26 = .ok (.return_, 1) := by decide +kernel
theorem d1_4 : decode method_3_code 4 = .ok (.new 29, 3) := by decide +kernel
theorem d1_7 : decode method_3_code 7 = .ok (.dup, 1) := by decide +kernel
theorem d1_8 : decode method_3_code 8 = .ok (.iconst 0, 1) := by decide +kernel
theorem d1_9 : decode method_3_code 9 = .ok (.newarray .char, 2) := by decide +kernel
theorem d1_11 : decode method_3_code 11 = .ok (.invokespecial 31, 3) := by decide +kernel
theorem d1_14 : decode method_3_code 14 = .ok (.areturn, 1) := by decide +kernel
theorem d13_0 : decode method_4_code 0 = .ok (.iload_n 0, 1) := by decide +kernel
theorem d13_1 : decode method_4_code 1 = .ok (.ifCond .ne 7, 3) := by decide +kernel
theorem d13_4 : decode method_4_code 4 = .ok (.getstatic 34, 3) := by decide +kernel
theorem d13_7 : decode method_4_code 7 = .ok (.areturn, 1) := by decide +kernel
theorem d13_8 : decode method_4_code 8 = .ok (.iload_n 0, 1) := by decide +kernel
theorem d13_9 : decode method_4_code 9 = .ok (.iconst 1, 1) := by decide +kernel
theorem d13_10 : decode method_4_code 10 = .ok (.if_icmp .ne 7, 3) := by decide +kernel
theorem d13_13 : decode method_4_code 13 = .ok (.getstatic 40, 3) := by decide +kernel
theorem d13_16 : decode method_4_code 16 = .ok (.areturn, 1) := by decide +kernel
theorem d13_17 : decode method_4_code 17 = .ok (.iload_n 0, 1) := by decide +kernel
theorem d13_18 : decode method_4_code 18 = .ok (.iconst 2, 1) := by decide +kernel
theorem d13_19 : decode method_4_code 19 = .ok (.if_icmp .ne 7, 3) := by decide +kernel
theorem d13_22 : decode method_4_code 22 = .ok (.getstatic 43, 3) := by decide +kernel
theorem d13_25 : decode method_4_code 25 = .ok (.areturn, 1) := by decide +kernel
theorem d13_26 : decode method_4_code 26 = .ok (.iload_n 0, 1) := by decide +kernel
theorem d13_27 : decode method_4_code 27 = .ok (.iconst 3, 1) := by decide +kernel
theorem d13_28 : decode method_4_code 28 = .ok (.if_icmp .ne 7, 3) := by decide +kernel
theorem d13_31 : decode method_4_code 31 = .ok (.getstatic 46, 3) := by decide +kernel
theorem d13_34 : decode method_4_code 34 = .ok (.areturn, 1) := by decide +kernel
theorem d13_35 : decode method_4_code 35 = .ok (.iload_n 0, 1) := by decide +kernel
theorem d13_36 : decode method_4_code 36 = .ok (.iconst 4, 1) := by decide +kernel
theorem d13_37 : decode method_4_code 37 = .ok (.if_icmp .ne 7, 3) := by decide +kernel
theorem d13_40 : decode method_4_code 40 = .ok (.getstatic 49, 3) := by decide +kernel
theorem d13_43 : decode method_4_code 43 = .ok (.areturn, 1) := by decide +kernel
theorem d13_44 : decode method_4_code 44 = .ok (.iload_n 0, 1) := by decide +kernel
theorem d13_45 : decode method_4_code 45 = .ok (.iconst 5, 1) := by decide +kernel
theorem d13_46 : decode method_4_code 46 = .ok (.if_icmp .ne 7, 3) := by decide +kernel
theorem d13_49 : decode method_4_code 49 = .ok (.getstatic 52, 3) := by decide +kernel
theorem d13_52 : decode method_4_code 52 = .ok (.areturn, 1) := by decide +kernel
theorem d13_53 : decode method_4_code 53 = .ok (.getstatic 55, 3) := by decide +kernel
theorem d13_56 : decode method_4_code 56 = .ok (.areturn, 1) := by decide +kernel
theorem pn_13 : plainName "com/example/apq/apq/jpql/TokenEndPinLaw" = true := by first | (simp [plainName, overriddenIn]; done) | decide +kernel
theorem d15_0 : decode jdk_30_method_1_code 0 = .ok (.aload_n 0, 1) := by decide +kernel
theorem d15_1 : decode jdk_30_method_1_code 1 = .ok (.invokespecial 1, 3) := by decide +kernel
theorem d15_4 : decode jdk_30_method_1_code 4 = .ok (.return_, 1) := by decide +kernel
theorem pn_15 : plainName "java/lang/Record" = true := by first | (simp [plainName, overriddenIn]; done) | decide +kernel
theorem d14_0 : decode prog_97_method_1_code 0 = .ok (.aload_n 0, 1) := by decide +kernel
theorem d14_1 : decode prog_97_method_1_code 1 = .ok (.invokespecial 1, 3) := by decide +kernel
theorem pd___V : parseMethodDescriptor "()V" = some ⟨[], none⟩ := by decide +kernel
theorem d14_4 : decode prog_97_method_1_code 4 = .ok (.aload_n 0, 1) := by decide +kernel
theorem d14_5 : decode prog_97_method_1_code 5 = .ok (.aload_n 1, 1) := by decide +kernel
theorem d14_6 : decode prog_97_method_1_code 6 = .ok (.putfield 7, 3) := by decide +kernel
theorem d14_9 : decode prog_97_method_1_code 9 = .ok (.aload_n 0, 1) := by decide +kernel
theorem d14_10 : decode prog_97_method_1_code 10 = .ok (.aload_n 2, 1) := by decide +kernel
theorem d14_11 : decode prog_97_method_1_code 11 = .ok (.putfield 13, 3) := by decide +kernel
theorem d14_14 : decode prog_97_method_1_code 14 = .ok (.aload_n 0, 1) := by decide +kernel
theorem d14_15 : decode prog_97_method_1_code 15 = .ok (.iload_n 3, 1) := by decide +kernel
theorem d14_16 : decode prog_97_method_1_code 16 = .ok (.putfield 17, 3) := by decide +kernel
theorem d14_19 : decode prog_97_method_1_code 19 = .ok (.return_, 1) := by decide +kernel
theorem pn_14 : plainName "com/example/apq/apq/jpql/Token" = true := by first | (simp [plainName, overriddenIn]; done) | decide +kernel
theorem d18_0 : decode jdk_42_method_152_code 0 = .ok (.getstatic 38, 3) := by decide +kernel
theorem d18_3 : decode jdk_42_method_152_code 3 = .ok (.ifCond .eq 10, 3) := by decide +kernel
theorem d18_6 : decode jdk_42_method_152_code 6 = .ok (.aload_n 0, 1) := by decide +kernel
theorem d18_7 : decode jdk_42_method_152_code 7 = .ok (.getfield 15, 3) := by decide +kernel
theorem d18_10 : decode jdk_42_method_152_code 10 = .ok (.goto 4, 3) := by decide +kernel
theorem d18_14 : decode jdk_42_method_152_code 14 = .ok (.ireturn, 1) := by decide +kernel
theorem pn_18 : plainName "java/lang/String" = true := by first | (simp [plainName, overriddenIn]; done) | decide +kernel
theorem d17_0 : decode jdk_42_method_54_code 0 = .ok (.aload_n 0, 1) := by decide +kernel
theorem d17_1 : decode jdk_42_method_54_code 1 = .ok (.getfield 9, 3) := by decide +kernel
theorem d17_4 : decode jdk_42_method_54_code 4 = .ok (.arraylength, 1) := by decide +kernel
theorem d17_5 : decode jdk_42_method_54_code 5 = .ok (.aload_n 0, 1) := by decide +kernel
theorem d17_6 : decode jdk_42_method_54_code 6 = .ok (.invokevirtual 335, 3) := by decide +kernel
theorem pd___B : parseMethodDescriptor "()B" = some ⟨[], some .byte⟩ := by decide +kernel
theorem d17_9 : decode jdk_42_method_54_code 9 = .ok (.ishr, 1) := by decide +kernel
theorem d17_10 : decode jdk_42_method_54_code 10 = .ok (.ireturn, 1) := by decide +kernel
theorem pn_17 : plainName "java/lang/String" = true := by first | (simp [plainName, overriddenIn]; done) | decide +kernel
theorem d16_0 : decode prog_97_method_2_code 0 = .ok (.aload_n 0, 1) := by decide +kernel
theorem d16_1 : decode prog_97_method_2_code 1 = .ok (.getfield 17, 3) := by decide +kernel
theorem d16_4 : decode prog_97_method_2_code 4 = .ok (.aload_n 0, 1) := by decide +kernel
theorem d16_5 : decode prog_97_method_2_code 5 = .ok (.getfield 13, 3) := by decide +kernel
theorem d16_8 : decode prog_97_method_2_code 8 = .ok (.invokevirtual 21, 3) := by decide +kernel
theorem pd___I : parseMethodDescriptor "()I" = some ⟨[], some .int⟩ := by decide +kernel
theorem d16_11 : decode prog_97_method_2_code 11 = .ok (.iadd, 1) := by decide +kernel
theorem d16_12 : decode prog_97_method_2_code 12 = .ok (.ireturn, 1) := by decide +kernel
theorem pn_16 : plainName "com/example/apq/apq/jpql/Token" = true := by first | (simp [plainName, overriddenIn]; done) | decide +kernel
theorem pd__ICCCC_Ljava_lang_String_ : parseMethodDescriptor "(ICCCC)Ljava/lang/String;" = some ⟨[.int, .char, .char, .char, .char], some (.object "java/lang/String")⟩ := by decide +kernel
theorem pd__I_Lcom_example_apq_apq_jpql_Token_Kind_ : parseMethodDescriptor "(I)Lcom/example/apq/apq/jpql/Token$Kind;" = some ⟨[.int], some (.object "com/example/apq/apq/jpql/Token$Kind")⟩ := by decide +kernel
theorem pd__Lcom_example_apq_apq_jpql_Token_Kind_Ljava_lang_String_I_V : parseMethodDescriptor "(Lcom/example/apq/apq/jpql/Token$Kind;Ljava/lang/String;I)V" = some ⟨[(.object "com/example/apq/apq/jpql/Token$Kind"), (.object "java/lang/String"), .int], none⟩ := by decide +kernel
theorem pn_0 : plainName "com/example/apq/apq/jpql/TokenEndPinLaw" = true := by first | (simp [plainName, overriddenIn]; done) | decide +kernel
theorem ef_rmNL1 (m : MethodId) (x0 : Int32) : entryFrame m #[(.int x0)] 1 = mkF m 0 #[iv x0] [] := by first | (simp [entryFrame, mkF, argsToLocals, Value.category]; done) | rfl
set_option maxRecDepth 65536 in
set_option maxHeartbeats 40000000 in
theorem rmNL1 (l : Launch) (Z : State) (a0 : Array Value) (hw : ∀ d ∈ tables_1, d.before a0 Z = true) (ws : List Jvm.Cond)  (h0 : Heap) (n0 : Nat) (Z0 : n0 ≤ h0.size) :
    MetFree l own_y0 (head1 (Jvm.Cond.code own_y0 jdk_52_method_3_code 1 (some .int) :: ws) ({ frames := 0, cells := 0, slots := 0, locals := 0 } : Room)) (fun a U => a = #[(.int (1 : Int32))] ∧ Z.Warmed39 U.vm ∧ U.heap = h0) (fun _ _ _ _ _ => True) (fun _ U o U' => ∃ v L, o = .returned v ∧ own_QP (some (.int (2 : Int32))) h0 n0 v U'.heap L ∧ FrameEnd U o U' L ({ frames := 0, cells := 0, slots := 0, locals := 0 } : Room).cells ({ frames := 0, cells := 0, slots := 0, locals := 0 } : Room).slots) := by
  refine MetFree.of_bodySF (plainFor_of_name pn_9) hisR ?_
  intro p e s m args below meth c s₁ Bd hml0 hP hK
  obtain ⟨rfl, hZ, hh⟩ := hP
  have hx := Bd.exec
  have hby := Bd.bytes
  have hml : c.maxLocals = 1 := hml0
  have hown : s.vm.findClass "java/lang/StringUTF16" = some m.cls := findClass_of_methodNamed Bd.named
  have hnm := (name_of_methodNamed Bd.named Bd.method).1
  have X0 : Stand p l e ({ frames := 0, cells := 0, slots := 0, locals := 0 } : Room) s m #[(.int (1 : Int32))] below meth c s₁ [] 0 0 := Stand.of_body Bd
  have e0 : s₁.heap = h0 := by rw [← hh, Bd.state]; rfl
  have N0 := Fr.nil n0
  have pre0 : ∀ t, Steps p.tables e below (s₁.setTop (mkF m 0 #[iv (1 : Int32)] [])) t → Steps p.tables e below (s₁.setTop (entryFrame m #[(.int (1 : Int32))] 1)) t := fun t k => castTop (ef_rmNL1 m (1 : Int32)) k
  obtain ⟨fs, hr, hrun, hended, hW, hsame⟩ := X0.leave (v := some (.int (2 : Int32))) (fun h => by rw [Bd.returns] at h; cases h)
  refine ⟨_, _, pre0 _ ?_, hrun, hended, _, _, rfl, ?_, ⟨_, rfl⟩, hW, hsame.mono (by decide) (by decide)⟩
  · refine XS.iloadN X0.here hx rfl (hb hby d9_0) rfl ?_
    refine XS.ifYes X0.here hx rfl (pc0 := 1) (pc' := 12) rfl (hb hby d9_1) rfl ((if0 _ _).trans (flt (by decide : ¬ ((1 : Int32) < (0 : Int32)))).2.1) (by decide) (by decide) ?_
    refine XS.iloadN X0.here hx rfl (hb hby d9_12) rfl ?_
    refine X0.ldcInt hx hown (mvT hZ (own_g hw 38 rfl)) (g := (mkF m 13 #[iv (1 : Int32)] [(.int (1 : Int32))])) rfl (hb hby d9_13) _ ?_
    refine XS.icmpYes X0.here hx rfl (pc0 := 15) (pc' := 55) rfl (hb hby d9_15) rfl (tlt (by decide : (1 : Int32) < (1073741823 : Int32))).1 (by decide) (by decide) ?_
    refine XS.iloadN X0.here hx rfl (hb hby d9_55) rfl ?_
    refine XS.iconst X0.here hx rfl (hb hby d9_56) ?_
    refine XS.ishl X0.here hx rfl (hb hby d9_57) rfl ?_
    show Steps _ _ _ (s₁.setTop (mkF m 58 #[iv (1 : Int32)] [(.int ((1 : Int32) <<< ((1 : Int32) &&& 31)))])) _
    rw [(by decide : ((1 : Int32) <<< ((1 : Int32) &&& 31)) = (2 : Int32))]
    show Steps _ _ _ (s₁.setTop (mkF m 58 #[iv (1 : Int32)] [(.int (2 : Int32))])) _
    exact retI X0 hx Bd.returns (hb hby d9_58) hr
  · show own_QP (some (.int (2 : Int32))) h0 n0 _ s₁.heap _
    rw [e0]
    exact ⟨rfl, N0, rfl⟩

theorem ef_rmNF1 (m : MethodId) (x0 : Int32) : entryFrame m #[(.int x0)] 1 = mkF m 0 #[iv x0] [] := by first | (simp [entryFrame, mkF, argsToLocals, Value.category]; done) | rfl
def Q_rmNF1 (Z : State)  (h0 : Heap) (n0 : Nat) (v : Option Value) (h : Heap) (L : List Loc) : Prop := ∃ (t : Addr), ∃ (kt : ClassId), (v = (some (.ref t)) ∧ Fr n0 L ∧ Keep h0 h [] ∧ h0.size ≤ t ∧ Arv Z h t kt .byte (2 : Int32) [(.int (0 : Int32)), (.int (0 : Int32))] (.int (0 : Int32)))
set_option maxRecDepth 65536 in
set_option maxHeartbeats 40000000 in
theorem rmNF1 (l : Launch) (Z : State) (a0 : Array Value) (hw : ∀ d ∈ tables_1, d.before a0 Z = true) (ws : List Jvm.Cond)  (h0 : Heap) (n0 : Nat) (Z0 : n0 ≤ h0.size) :
    MetFree l own_y1 (head1 (Jvm.Cond.code own_y1 jdk_52_method_2_code 1 (some (.array .byte)) :: ws) ({ frames := 1, cells := 1, slots := 2, locals := 12 } : Room)) (fun a U => a = #[(.int (1 : Int32))] ∧ Z.Warmed39 U.vm ∧ U.heap = h0) (fun _ _ _ _ _ => True) (fun _ U o U' => ∃ v L, o = .returned v ∧ Q_rmNF1 Z  h0 n0 v U'.heap L ∧ FrameEnd U o U' L ({ frames := 1, cells := 1, slots := 2, locals := 12 } : Room).cells ({ frames := 1, cells := 1, slots := 2, locals := 12 } : Room).slots) := by
  refine MetFree.of_bodySF (plainFor_of_name pn_8) hisR ?_
  intro p e s m args below meth c s₁ Bd hml0 hP hK
  obtain ⟨rfl, hZ, hh⟩ := hP
  have hx := Bd.exec
  have hby := Bd.bytes
  have hml : c.maxLocals = 1 := hml0
  have hown : s.vm.findClass "java/lang/StringUTF16" = some m.cls := findClass_of_methodNamed Bd.named
  have hnm := (name_of_methodNamed Bd.named Bd.method).1
  have X0 : Stand p l e ({ frames := 1, cells := 1, slots := 2, locals := 12 } : Room) s m #[(.int (1 : Int32))] below meth c s₁ [] 0 0 := Stand.of_body Bd
  have e0 : s₁.heap = h0 := by rw [← hh, Bd.state]; rfl
  have N0 := Fr.nil n0
  have pre0 : ∀ t, Steps p.tables e below (s₁.setTop (mkF m 0 #[iv (1 : Int32)] [])) t → Steps p.tables e below (s₁.setTop (entryFrame m #[(.int (1 : Int32))] 1)) t := fun t k => castTop (ef_rmNF1 m (1 : Int32)) k
  obtain ⟨_, _, ⟨T1, L1, k1, n1⟩, -, X1, ⟨Lc1, hQ1, l1, y1, z1⟩, st1⟩ := Jvm.LawKit.callS X0 hx (y := own_y0) hown (mvT hZ (own_g hw 35 rfl)) (mvT hZ (own_g hw 36 rfl)) (mvT hZ (own_g hw 23 rfl)) (mvT hZ (own_g hw 37 rfl)) (by decide) (backOf (W := 0) (rmNL1 l Z a0 hw []  h0 n0 Z0 ) hZ (own_g hw 37 rfl) (own_g hw 23 rfl) (by decide) (by decide)) (g := (mkF m 1 #[iv (1 : Int32)] [(.int (1 : Int32))])) rfl (by rw [hml]; rfl) (argsL := [(.int (1 : Int32))]) (rest := []) (lenOf pd__I_I rfl) rfl (by show 2 * 0 + _ ≤ _; exact Nat.le_of_eq rfl) (hb hby d8_1) (fun _ _ => ⟨rfl, e0, (by decide : 0 + 0 ≤ _), (by decide : 0 + 0 ≤ _)⟩)
  dsimp only [Pt.U, Pt.locs, Pt.cells, Pt.slots] at X1 l1 y1 z1 st1 hQ1
  subst l1 y1 z1
  obtain ⟨rfl, N1q, e1⟩ := hQ1
  have N1 := Fr.app N0 N1q
  obtain ⟨T2, h2, k2, X2, e2, E2, A2, st2⟩ := newP X1 hx hZ (own_g hw 25 rfl) e1 (g := (mkF m 4 #[iv (1 : Int32)] [(.int (2 : Int32))])) rfl (hb hby d8_4) rfl (by decide) (cap := 2) (by decide) (by decide) (by decide) (by decide)
  obtain ⟨b2, g2⟩ : ∃ z, z = h0.size := ⟨_, rfl⟩
  rw [← g2] at A2 st2
  have o2 : n0 ≤ b2 := Nat.le_trans Z0 (Nat.le_of_eq g2.symm)
  have z2 : h0.size ≤ b2 := Nat.le_trans (Keep.refl h0 []).1 (Nat.le_of_eq g2.symm)
  have K2 : Keep h0 h2 [] := (Keep.refl h0 []).ext E2
  have V2 : Arv Z h2 b2 k2 .byte (2 : Int32) [(.int (0 : Int32)), (.int (0 : Int32))] (.int (0 : Int32)) := (Arv.new A2 (by decide)).pad (pad_rep [] (.int (0 : Int32)) 2)
  obtain ⟨fs, hr, hrun, hended, hW, hsame⟩ := X2.leave (v := some (.ref b2)) (fun h => by rw [Bd.returns] at h; cases h)
  refine ⟨_, _, pre0 _ ?_, hrun, hended, _, _, rfl, ?_, ⟨_, rfl⟩, hW, hsame.mono (by decide) (by decide)⟩
  · refine XS.iloadN X0.here hx rfl (hb hby d8_0) rfl ?_
    show Steps _ _ _ (s₁.setTop (mkF m 1 #[iv (1 : Int32)] [(.int (1 : Int32))])) _
    refine st1 _ ?_
    refine st2 _ ?_
    show Steps _ _ _ (T2.setTop (mkF m 6 #[iv (1 : Int32)] [(.ref b2)])) _
    exact retOut X2 hx Bd.returns rfl (Or.inr (Or.inr (Or.inr (Or.inr ⟨rfl, rfl, rfl⟩)))) (hb hby d8_6) hr
  · show Q_rmNF1 Z  h0 n0 _ T2.heap _
    rw [e2]
    exact ⟨b2, k2, rfl, N1, K2, z2, V2⟩

theorem ef_rmPC1_0 (m : MethodId) (x0 : Addr) (x1 : Int32) (x2 : Int32) : entryFrame m #[(.ref x0), (.int x1), (.int x2)] 3 = mkF m 0 #[rv x0, iv x1, iv x2] [] := by first | (simp [entryFrame, mkF, argsToLocals, Value.category]; done) | rfl
def Q_rmPC1_0 (Z : State) (u0 : Addr) (p2 : Int32) (kB : ClassId) (d0 : Int32) (d1 : Int32) (h0 : Heap) (n0 : Nat) (v : Option Value) (h : Heap) (L : List Loc) : Prop := (v = none ∧ Fr n0 L ∧ Keep h0 h [u0] ∧ Arv Z h u0 kB .byte (2 : Int32) [(.int (((p2 >>> ((0 : Int32) &&& 31)).toInt8.toInt32).toInt8.toInt32)), (.int (((p2 >>> ((8 : Int32) &&& 31)).toInt8.toInt32).toInt8.toInt32))] (.int (0 : Int32)))
set_option maxRecDepth 65536 in
set_option maxHeartbeats 40000000 in
theorem rmPC1_0 (l : Launch) (Z : State) (a0 : Array Value) (hw : ∀ d ∈ tables_1, d.before a0 Z = true) (ws : List Jvm.Cond) (u0 : Addr) (p2 : Int32) (kB : ClassId) (d0 : Int32) (d1 : Int32) (h0 : Heap) (n0 : Nat) (Z0 : n0 ≤ h0.size) (P_S_StringUTF16__assertionsDisabled : Sta Z h0 "java/lang/StringUTF16" "$assertionsDisabled" "Z" (.int (1 : Int32))) (P_S_StringUTF16_HI_BYTE_SHIFT : Sta Z h0 "java/lang/StringUTF16" "HI_BYTE_SHIFT" "I" (.int (0 : Int32))) (P_S_StringUTF16_LO_BYTE_SHIFT : Sta Z h0 "java/lang/StringUTF16" "LO_BYTE_SHIFT" "I" (.int (8 : Int32))) (P_V_u0 : Arv Z h0 u0 kB .byte (2 : Int32) [(.int d0), (.int d1)] (.int (0 : Int32))) (g_u0 : n0 ≤ u0) :
    MetFree l own_y2 (head1 (Jvm.Cond.code own_y2 jdk_52_method_4_code 3 none :: ws) ({ frames := 0, cells := 0, slots := 0, locals := 0 } : Room)) (fun a U => a = #[(.ref u0), (.int (0 : Int32)), (.int p2)] ∧ Z.Warmed39 U.vm ∧ U.heap = h0) (fun _ _ _ _ _ => True) (fun _ U o U' => ∃ v L, o = .returned v ∧ Q_rmPC1_0 Z u0 p2 kB d0 d1 h0 n0 v U'.heap L ∧ FrameEnd U o U' L ({ frames := 0, cells := 0, slots := 0, locals := 0 } : Room).cells ({ frames := 0, cells := 0, slots := 0, locals := 0 } : Room).slots) := by
  refine MetFree.of_bodySF (plainFor_of_name pn_10) hisR ?_
  intro p e s m args below meth c s₁ Bd hml0 hP hK
  obtain ⟨rfl, hZ, hh⟩ := hP
  have hx := Bd.exec
  have hby := Bd.bytes
  have hml : c.maxLocals = 3 := hml0
  have hown : s.vm.findClass "java/lang/StringUTF16" = some m.cls := findClass_of_methodNamed Bd.named
  have hnm := (name_of_methodNamed Bd.named Bd.method).1
  have X0 : Stand p l e ({ frames := 0, cells := 0, slots := 0, locals := 0 } : Room) s m #[(.ref u0), (.int (0 : Int32)), (.int p2)] below meth c s₁ [] 0 0 := Stand.of_body Bd
  have e0 : s₁.heap = h0 := by rw [← hh, Bd.state]; rfl
  have N0 := Fr.nil n0
  have pre0 : ∀ t, Steps p.tables e below (s₁.setTop (mkF m 0 #[rv u0, iv (0 : Int32), iv p2] [])) t → Steps p.tables e below (s₁.setTop (entryFrame m #[(.ref u0), (.int (0 : Int32)), (.int p2)] 3)) t := fun t k => castTop (ef_rmPC1_0 m u0 (0 : Int32) p2) k
  obtain ⟨T1, X1, e1, st1⟩ := getS2 X0 hx hZ hown (host := "") (Or.inl (own_g hw 42 rfl)) Via.refl e0 P_S_StringUTF16__assertionsDisabled (g := (mkF m 0 #[rv u0, iv (0 : Int32), iv p2] [])) rfl (hb hby d10_0)
  obtain ⟨T2, X2, e2, st2⟩ := getS2 X1 hx hZ hown (host := "") (Or.inl (own_g hw 43 rfl)) Via.refl e1 P_S_StringUTF16_HI_BYTE_SHIFT (g := (mkF m 38 #[rv u0, iv (1 : Int32), iv p2] [(.int p2), (.int (0 : Int32)), (.ref u0)])) rfl (hb hby d10_38)
  obtain ⟨cl3, Ar3, qq3, S3, N3_, H3, G3⟩ := id P_V_u0
  have hin3 : ¬ ((0 : Int32) < 0 ∨ cl3.slots.size ≤ ((0 : Int32)).toNatClampNeg) := inb_of S3 ⟨by decide, by decide⟩
  obtain ⟨T4, h4, X4, e4, W4, st4⟩ := stB X2 hx hZ e2 Ar3 (j := (0 : Int32)) hin3 (g := (mkF m 43 #[rv u0, iv (1 : Int32), iv p2] [(.int ((p2 >>> ((0 : Int32) &&& 31)).toInt8.toInt32)), (.int (0 : Int32)), (.ref u0)])) rfl rfl (hb hby d10_43)
  have V4 : Arv Z h4 u0 kB .byte (2 : Int32) [(.int (((p2 >>> ((0 : Int32) &&& 31)).toInt8.toInt32).toInt8.toInt32)), (.int d1)] (.int (0 : Int32)) := Arv.set Ar3 qq3 S3 N3_ H3 G3 (fits_nar_byte _) W4 0 rfl (Nat.le_of_ble_eq_true rfl)
  have N5 := Fr.snoc X4 N0 g_u0
  have K6 : Keep h0 h4 [u0] := (Keep.refl h0 [u0]).wr W4 (Or.inl (List.mem_of_getElem? (i := 0) rfl))
  have f7 : Sta Z h4 "java/lang/StringUTF16" "LO_BYTE_SHIFT" "I" (.int (8 : Int32)) := (P_S_StringUTF16_LO_BYTE_SHIFT.wr W4)
  obtain ⟨T8, X8, e8, st8⟩ := getS2 X4 hx hZ hown (host := "") (Or.inl (own_g hw 44 rfl)) Via.refl e4 f7 (g := (mkF m 47 #[rv u0, iv (1 : Int32), iv p2] [(.int p2), (.int (1 : Int32)), (.ref u0)])) rfl (hb hby d10_47)
  obtain ⟨cl9, Ar9, qq9, S9, N9_, H9, G9⟩ := id V4
  have hin9 : ¬ ((1 : Int32) < 0 ∨ cl9.slots.size ≤ ((1 : Int32)).toNatClampNeg) := inb_of S9 ⟨by decide, by decide⟩
  obtain ⟨T10, h10, X10, e10, W10, st10⟩ := stB X8 hx hZ e8 Ar9 (j := (1 : Int32)) hin9 (g := (mkF m 52 #[rv u0, iv (1 : Int32), iv p2] [(.int ((p2 >>> ((8 : Int32) &&& 31)).toInt8.toInt32)), (.int (1 : Int32)), (.ref u0)])) rfl rfl (hb hby d10_52)
  have V10 : Arv Z h10 u0 kB .byte (2 : Int32) [(.int (((p2 >>> ((0 : Int32) &&& 31)).toInt8.toInt32).toInt8.toInt32)), (.int (((p2 >>> ((8 : Int32) &&& 31)).toInt8.toInt32).toInt8.toInt32))] (.int (0 : Int32)) := Arv.set Ar9 qq9 S9 N9_ H9 G9 (fits_nar_byte _) W10 1 rfl (Nat.le_of_ble_eq_true rfl)
  have N11 := Fr.snoc X10 N5 g_u0
  have K12 : Keep h0 h10 [u0] := K6.wr W10 (Or.inl (List.mem_of_getElem? (i := 0) rfl))
  obtain ⟨fs, hr, hrun, hended, hW, hsame⟩ := X10.leave (v := none) (fun _ => rfl)
  refine ⟨_, _, pre0 _ ?_, hrun, hended, _, _, rfl, ?_, ⟨_, rfl⟩, hW, hsame.mono (by decide) (by decide)⟩
  · refine st1 _ ?_
    refine XS.ifYes X1.here hx rfl (pc0 := 3) (pc' := 28) rfl (hb hby d10_3) rfl ((if0 _ _).trans (feq (by decide : ¬ ((1 : Int32) = (0 : Int32)))).2) (by decide) (by decide) ?_
    refine XS.iloadN X1.here hx rfl (hb hby d10_28) rfl ?_
    refine XS.iconst X1.here hx rfl (hb hby d10_29) ?_
    refine XS.ishl X1.here hx rfl (hb hby d10_30) rfl ?_
    show Steps _ _ _ (T1.setTop (mkF m 31 #[rv u0, iv (0 : Int32), iv p2] [(.int ((0 : Int32) <<< ((1 : Int32) &&& 31)))])) _
    rw [(by decide : ((0 : Int32) <<< ((1 : Int32) &&& 31)) = (0 : Int32))]
    refine XS.istoreN X1.here hx rfl (hb hby d10_31) rfl (l' := #[rv u0, iv (0 : Int32), iv p2]) rfl ?_
    refine XS.aloadN X1.here hx rfl (hb hby d10_32) rfl rfl ?_
    refine XS.iloadN X1.here hx rfl (hb hby d10_33) rfl ?_
    refine XS.iinc X1.here hx rfl (hb hby d10_34) rfl (l' := #[rv u0, iv (1 : Int32), iv p2]) rfl ?_
    refine XS.iloadN X1.here hx rfl (hb hby d10_37) rfl ?_
    refine st2 _ ?_
    refine XS.ishr X2.here hx rfl (hb hby d10_41) rfl ?_
    refine XS.i2b X2.here hx rfl (hb hby d10_42) rfl ?_
    refine st4 _ ?_
    refine XS.aloadN X4.here hx rfl (hb hby d10_44) rfl rfl ?_
    refine XS.iloadN X4.here hx rfl (hb hby d10_45) rfl ?_
    refine XS.iloadN X4.here hx rfl (hb hby d10_46) rfl ?_
    refine st8 _ ?_
    refine XS.ishr X8.here hx rfl (hb hby d10_50) rfl ?_
    refine XS.i2b X8.here hx rfl (hb hby d10_51) rfl ?_
    refine st10 _ ?_
    show Steps _ _ _ (T10.setTop (mkF m 53 #[rv u0, iv (1 : Int32), iv p2] [])) _
    exact X10.returnOut hx Bd.returns (hb hby d10_53) hr
  · show Q_rmPC1_0 Z u0 p2 kB d0 d1 h0 n0 _ T10.heap _
    rw [e10]
    exact ⟨rfl, N11, K12, V10⟩

theorem ef_rmGC1_0 (m : MethodId) (x0 : Addr) (x1 : Int32) : entryFrame m #[(.ref x0), (.int x1)] 2 = mkF m 0 #[rv x0, iv x1] [] := by first | (simp [entryFrame, mkF, argsToLocals, Value.category]; done) | rfl
set_option maxRecDepth 65536 in
set_option maxHeartbeats 40000000 in
theorem rmGC1_0 (l : Launch) (Z : State) (a0 : Array Value) (hw : ∀ d ∈ tables_1, d.before a0 Z = true) (ws : List Jvm.Cond) (u0 : Addr) (kB : ClassId) (d0 : Int32) (d1 : Int32) (h0 : Heap) (n0 : Nat) (Z0 : n0 ≤ h0.size) (P_S_StringUTF16__assertionsDisabled : Sta Z h0 "java/lang/StringUTF16" "$assertionsDisabled" "Z" (.int (1 : Int32))) (P_S_StringUTF16_HI_BYTE_SHIFT : Sta Z h0 "java/lang/StringUTF16" "HI_BYTE_SHIFT" "I" (.int (0 : Int32))) (P_S_StringUTF16_LO_BYTE_SHIFT : Sta Z h0 "java/lang/StringUTF16" "LO_BYTE_SHIFT" "I" (.int (8 : Int32))) (P_V_u0 : Arv Z h0 u0 kB .byte (2 : Int32) [(.int d0), (.int d1)] (.int (0 : Int32))) :
    MetFree l own_y3 (head1 (Jvm.Cond.code own_y3 jdk_52_method_5_code 2 (some .char) :: ws) ({ frames := 0, cells := 0, slots := 0, locals := 0 } : Room)) (fun a U => a = #[(.ref u0), (.int (0 : Int32))] ∧ Z.Warmed39 U.vm ∧ U.heap = h0) (fun _ _ _ _ _ => True) (fun _ U o U' => ∃ v L, o = .returned v ∧ own_QP (some (.int (own_gc d0 d1))) h0 n0 v U'.heap L ∧ FrameEnd U o U' L ({ frames := 0, cells := 0, slots := 0, locals := 0 } : Room).cells ({ frames := 0, cells := 0, slots := 0, locals := 0 } : Room).slots) := by
  refine MetFree.of_bodySF (plainFor_of_name pn_11) hisR ?_
  intro p e s m args below meth c s₁ Bd hml0 hP hK
  obtain ⟨rfl, hZ, hh⟩ := hP
  have hx := Bd.exec
  have hby := Bd.bytes
  have hml : c.maxLocals = 2 := hml0
  have hown : s.vm.findClass "java/lang/StringUTF16" = some m.cls := findClass_of_methodNamed Bd.named
  have hnm := (name_of_methodNamed Bd.named Bd.method).1
  have X0 : Stand p l e ({ frames := 0, cells := 0, slots := 0, locals := 0 } : Room) s m #[(.ref u0), (.int (0 : Int32))] below meth c s₁ [] 0 0 := Stand.of_body Bd
  have e0 : s₁.heap = h0 := by rw [← hh, Bd.state]; rfl
  have N0 := Fr.nil n0
  have pre0 : ∀ t, Steps p.tables e below (s₁.setTop (mkF m 0 #[rv u0, iv (0 : Int32)] [])) t → Steps p.tables e below (s₁.setTop (entryFrame m #[(.ref u0), (.int (0 : Int32))] 2)) t := fun t k => castTop (ef_rmGC1_0 m u0 (0 : Int32)) k
  obtain ⟨T1, X1, e1, st1⟩ := getS2 X0 hx hZ hown (host := "") (Or.inl (own_g hw 42 rfl)) Via.refl e0 P_S_StringUTF16__assertionsDisabled (g := (mkF m 0 #[rv u0, iv (0 : Int32)] [])) rfl (hb hby d11_0)
  obtain ⟨cl2, Ar2, qq2, S2, N2_, H2, G2⟩ := id P_V_u0
  have hin2 : ¬ ((0 : Int32) < 0 ∨ cl2.slots.size ≤ ((0 : Int32)).toNatClampNeg) := inb_of S2 ⟨by decide, by decide⟩
  have hat2 : cl2.slots[((0 : Int32)).toNatClampNeg]? = some (.int d0) := H2.at hin2 rfl
  obtain ⟨T3, X3, e3, st3⟩ := getS2 X1 hx hZ hown (host := "") (Or.inl (own_g hw 43 rfl)) Via.refl e1 P_S_StringUTF16_HI_BYTE_SHIFT (g := (mkF m 42 #[rv u0, iv (1 : Int32)] [(.int (d0 &&& (255 : Int32)))])) rfl (hb hby d11_42)
  obtain ⟨cl4, Ar4, qq4, S4, N4_, H4, G4⟩ := id P_V_u0
  have hin4 : ¬ ((1 : Int32) < 0 ∨ cl4.slots.size ≤ ((1 : Int32)).toNatClampNeg) := inb_of S4 ⟨by decide, by decide⟩
  have hat4 : cl4.slots[((1 : Int32)).toNatClampNeg]? = some (.int d1) := H4.at hin4 rfl
  obtain ⟨T5, X5, e5, st5⟩ := getS2 X3 hx hZ hown (host := "") (Or.inl (own_g hw 44 rfl)) Via.refl e3 P_S_StringUTF16_LO_BYTE_SHIFT (g := (mkF m 53 #[rv u0, iv (1 : Int32)] [(.int (d1 &&& (255 : Int32))), (.int ((d0 &&& (255 : Int32)) <<< ((0 : Int32) &&& 31)))])) rfl (hb hby d11_53)
  obtain ⟨fs, hr, hrun, hended, hW, hsame⟩ := X5.leave (v := some (.int (nar .char ((((d0 &&& (255 : Int32)) <<< ((0 : Int32) &&& 31)) ||| ((d1 &&& (255 : Int32)) <<< ((8 : Int32) &&& 31))).toUInt32.toUInt16.toUInt32.toInt32)))) (fun h => by rw [Bd.returns] at h; cases h)
  refine ⟨_, _, pre0 _ ?_, hrun, hended, _, _, rfl, ?_, ⟨_, rfl⟩, hW, hsame.mono (by decide) (by decide)⟩
  · refine st1 _ ?_
    refine XS.ifYes X1.here hx rfl (pc0 := 3) (pc' := 28) rfl (hb hby d11_3) rfl ((if0 _ _).trans (feq (by decide : ¬ ((1 : Int32) = (0 : Int32)))).2) (by decide) (by decide) ?_
    refine XS.iloadN X1.here hx rfl (hb hby d11_28) rfl ?_
    refine XS.iconst X1.here hx rfl (hb hby d11_29) ?_
    refine XS.ishl X1.here hx rfl (hb hby d11_30) rfl ?_
    show Steps _ _ _ (T1.setTop (mkF m 31 #[rv u0, iv (0 : Int32)] [(.int ((0 : Int32) <<< ((1 : Int32) &&& 31)))])) _
    rw [(by decide : ((0 : Int32) <<< ((1 : Int32) &&& 31)) = (0 : Int32))]
    refine XS.istoreN X1.here hx rfl (hb hby d11_31) rfl (l' := #[rv u0, iv (0 : Int32)]) rfl ?_
    refine XS.aloadN X1.here hx rfl (hb hby d11_32) rfl rfl ?_
    refine XS.iloadN X1.here hx rfl (hb hby d11_33) rfl ?_
    refine XS.iinc X1.here hx rfl (hb hby d11_34) rfl (l' := #[rv u0, iv (1 : Int32)]) rfl ?_
    refine X1.baloadBytes hx (j := (0 : Int32)) (v := (.int d0)) (by rw [e1]; exact Ar2.1) (State.isArrayOf_alike hZ.alike Ar2.2.1) Ar2.2.2 hin2 hat2 (g := (mkF m 37 #[rv u0, iv (1 : Int32)] [(.int (0 : Int32)), (.ref u0)])) rfl rfl (hb hby d11_37) _ ?_
    refine XS.sipush X1.here hx rfl (hb hby d11_38) ?_
    refine XS.iand X1.here hx rfl (hb hby d11_41) rfl ?_
    refine st3 _ ?_
    refine XS.ishl X3.here hx rfl (hb hby d11_45) rfl ?_
    refine XS.aloadN X3.here hx rfl (hb hby d11_46) rfl rfl ?_
    refine XS.iloadN X3.here hx rfl (hb hby d11_47) rfl ?_
    refine X3.baloadBytes hx (j := (1 : Int32)) (v := (.int d1)) (by rw [e3]; exact Ar4.1) (State.isArrayOf_alike hZ.alike Ar4.2.1) Ar4.2.2 hin4 hat4 (g := (mkF m 48 #[rv u0, iv (1 : Int32)] [(.int (1 : Int32)), (.ref u0), (.int ((d0 &&& (255 : Int32)) <<< ((0 : Int32) &&& 31)))])) rfl rfl (hb hby d11_48) _ ?_
    refine XS.sipush X3.here hx rfl (hb hby d11_49) ?_
    refine XS.iand X3.here hx rfl (hb hby d11_52) rfl ?_
    refine st5 _ ?_
    refine XS.ishl X5.here hx rfl (hb hby d11_56) rfl ?_
    refine XS.ior X5.here hx rfl (hb hby d11_57) rfl ?_
    refine XS.i2c X5.here hx rfl (hb hby d11_58) rfl ?_
    show Steps _ _ _ (T5.setTop (mkF m 59 #[rv u0, iv (1 : Int32)] [(.int ((((d0 &&& (255 : Int32)) <<< ((0 : Int32) &&& 31)) ||| ((d1 &&& (255 : Int32)) <<< ((8 : Int32) &&& 31))).toUInt32.toUInt16.toUInt32.toInt32))])) _
    exact retN X5 hx (t := .char) Bd.returns (by simp) (hb hby d11_59) hr
  · show own_QP (some (.int (own_gc d0 d1))) h0 n0 _ T5.heap _
    rw [e5]
    exact ⟨(by first | rfl | simp []), N0, rfl⟩

theorem ef_rmTB1 (m : MethodId) (x0 : Addr) (x1 : Int32) (x2 : Int32) : entryFrame m #[(.ref x0), (.int x1), (.int x2)] 5 = mkF m 0 #[rv x0, iv x1, iv x2, .unset, .unset] [] := by first | (simp [entryFrame, mkF, argsToLocals, Value.category]; done) | rfl
def Q_rmTB1 (Z : State) (u0 : Addr) (kA : ClassId) (c0 : Int32) (h0 : Heap) (n0 : Nat) (v : Option Value) (h : Heap) (L : List Loc) : Prop := ∃ (t : Addr), ∃ (kt : ClassId), (v = (some (.ref t)) ∧ Fr n0 L ∧ Keep h0 h [] ∧ h0.size ≤ t ∧ Arv Z h t kt .byte (2 : Int32) [(.int (((c0 >>> ((0 : Int32) &&& 31)).toInt8.toInt32).toInt8.toInt32)), (.int (((c0 >>> ((8 : Int32) &&& 31)).toInt8.toInt32).toInt8.toInt32))] (.int (0 : Int32)))
set_option maxRecDepth 65536 in
set_option maxHeartbeats 40000000 in
theorem rmTB1 (l : Launch) (Z : State) (a0 : Array Value) (hw : ∀ d ∈ tables_1, d.before a0 Z = true) (ws : List Jvm.Cond) (u0 : Addr) (kA : ClassId) (c0 : Int32) (h0 : Heap) (n0 : Nat) (Z0 : n0 ≤ h0.size) (P_S_StringUTF16__assertionsDisabled : Sta Z h0 "java/lang/StringUTF16" "$assertionsDisabled" "Z" (.int (1 : Int32))) (P_S_StringUTF16_HI_BYTE_SHIFT : Sta Z h0 "java/lang/StringUTF16" "HI_BYTE_SHIFT" "I" (.int (0 : Int32))) (P_S_StringUTF16_LO_BYTE_SHIFT : Sta Z h0 "java/lang/StringUTF16" "LO_BYTE_SHIFT" "I" (.int (8 : Int32))) (P_V_u0 : Arv Z h0 u0 kA .char (1 : Int32) [(.int c0)] (.int (0 : Int32))) :
    MetFree l own_y4 (head1 (Jvm.Cond.code own_y4 jdk_52_method_14_code 5 (some (.array .byte)) :: ws) ({ frames := 2, cells := 1, slots := 2, locals := 24 } : Room)) (fun a U => a = #[(.ref u0), (.int (0 : Int32)), (.int (1 : Int32))] ∧ Z.Warmed39 U.vm ∧ U.heap = h0) (fun _ _ _ _ _ => True) (fun _ U o U' => ∃ v L, o = .returned v ∧ Q_rmTB1 Z u0 kA c0 h0 n0 v U'.heap L ∧ FrameEnd U o U' L ({ frames := 2, cells := 1, slots := 2, locals := 24 } : Room).cells ({ frames := 2, cells := 1, slots := 2, locals := 24 } : Room).slots) := by
  refine MetFree.of_bodySF (plainFor_of_name pn_7) hisR ?_
  intro p e s m args below meth c s₁ Bd hml0 hP hK
  obtain ⟨rfl, hZ, hh⟩ := hP
  have hx := Bd.exec
  have hby := Bd.bytes
  have hml : c.maxLocals = 5 := hml0
  have hown : s.vm.findClass "java/lang/StringUTF16" = some m.cls := findClass_of_methodNamed Bd.named
  have hnm := (name_of_methodNamed Bd.named Bd.method).1
  have X0 : Stand p l e ({ frames := 2, cells := 1, slots := 2, locals := 24 } : Room) s m #[(.ref u0), (.int (0 : Int32)), (.int (1 : Int32))] below meth c s₁ [] 0 0 := Stand.of_body Bd
  have e0 : s₁.heap = h0 := by rw [← hh, Bd.state]; rfl
  have N0 := Fr.nil n0
  have pre0 : ∀ t, Steps p.tables e below (s₁.setTop (mkF m 0 #[rv u0, iv (0 : Int32), iv (1 : Int32), .unset, .unset] [])) t → Steps p.tables e below (s₁.setTop (entryFrame m #[(.ref u0), (.int (0 : Int32)), (.int (1 : Int32))] 5)) t := fun t k => castTop (ef_rmTB1 m u0 (0 : Int32) (1 : Int32)) k
  obtain ⟨_, _, ⟨T1, L1, k1, n1⟩, -, X1, ⟨Lc1, hQ1, l1, y1, z1⟩, st1⟩ := Jvm.LawKit.callS X0 hx (y := own_y1) hown (mvT hZ (own_g hw 32 rfl)) (mvT hZ (own_g hw 33 rfl)) (mvT hZ (own_g hw 23 rfl)) (mvT hZ (own_g hw 34 rfl)) (by decide) (backOf (W := 0) (rmNF1 l Z a0 hw []  h0 n0 Z0 ) hZ (own_g hw 34 rfl) (own_g hw 23 rfl) (by decide) (by decide)) (g := (mkF m 1 #[rv u0, iv (0 : Int32), iv (1 : Int32), .unset, .unset] [(.int (1 : Int32))])) rfl (by rw [hml]; rfl) (argsL := [(.int (1 : Int32))]) (rest := []) (lenOf pd__I__B rfl) rfl (by show 2 * 0 + _ ≤ _; exact Nat.le_of_eq rfl) (hb hby d7_1) (fun _ _ => ⟨rfl, e0, (by decide : 0 + 1 ≤ _), (by decide : 0 + 2 ≤ _)⟩)
  dsimp only [Pt.U, Pt.locs, Pt.cells, Pt.slots] at X1 l1 y1 z1 st1 hQ1
  subst l1 y1 z1
  obtain ⟨t_1, kt_1, rfl, N1q, K1, sx1_0, f2⟩ := hQ1
  have ot_1 : n0 ≤ t_1 := Nat.le_trans Z0 sx1_0
  have zt_1 : h0.size ≤ t_1 := Nat.le_trans (Keep.refl h0 []).1 sx1_0
  have ne3 : u0 ≠ t_1 := Nat.ne_of_lt (Nat.lt_of_lt_of_le P_V_u0.lt sx1_0)
  have KK1 : Keep h0 T1.heap [] := Keep.trans (Keep.refl h0 []) K1 all0
  have N1 := Fr.app N0 N1q
  have f4 : Arv Z T1.heap u0 kA .char (1 : Int32) [(.int c0)] (.int (0 : Int32)) := (P_V_u0.keep K1 nin0)
  obtain ⟨cl5, Ar5, qq5, S5, N5_, H5, G5⟩ := id f4
  have hin5 : ¬ ((0 : Int32) < 0 ∨ cl5.slots.size ≤ ((0 : Int32)).toNatClampNeg) := inb_of S5 ⟨by decide, by decide⟩
  have hat5 : cl5.slots[((0 : Int32)).toNatClampNeg]? = some (.int c0) := H5.at hin5 rfl
  have f6 : Sta Z T1.heap "java/lang/StringUTF16" "$assertionsDisabled" "Z" (.int (1 : Int32)) := (own_staKeep P_S_StringUTF16__assertionsDisabled K1 ns0)
  have f7 : Sta Z T1.heap "java/lang/StringUTF16" "HI_BYTE_SHIFT" "I" (.int (0 : Int32)) := (own_staKeep P_S_StringUTF16_HI_BYTE_SHIFT K1 ns0)
  have f8 : Sta Z T1.heap "java/lang/StringUTF16" "LO_BYTE_SHIFT" "I" (.int (8 : Int32)) := (own_staKeep P_S_StringUTF16_LO_BYTE_SHIFT K1 ns0)
  have f9 : n0 ≤ T1.heap.size := (Nat.le_trans Z0 K1.1)
  obtain ⟨_, _, ⟨T10, L10, k10, n10⟩, -, X10, ⟨Lc10, hQ10, l10, y10, z10⟩, st10⟩ := Jvm.LawKit.callS X1 hx (y := own_y2) hown (mvT hZ (own_g hw 39 rfl)) (mvT hZ (own_g hw 40 rfl)) (mvT hZ (own_g hw 23 rfl)) (mvT hZ (own_g hw 41 rfl)) (by decide) (backOf (W := 0) (rmPC1_0 l Z a0 hw [] t_1 c0 kt_1 (0 : Int32) (0 : Int32) T1.heap n0 f9 f6 f7 f8 f2 ot_1) hZ (own_g hw 41 rfl) (own_g hw 23 rfl) (by decide) (by decide)) (g := (mkF m 20 #[rv u0, iv (0 : Int32), iv (1 : Int32), rv t_1, iv (0 : Int32)] [(.int c0), (.int (0 : Int32)), (.ref t_1)])) rfl (by rw [hml]; rfl) (argsL := [(.ref t_1), (.int (0 : Int32)), (.int c0)]) (rest := []) (lenOf pd___BII_V rfl) rfl (by show 2 * 0 + _ ≤ _; exact Nat.le_of_eq rfl) (hb hby d7_20) (fun _ _ => ⟨rfl, rfl, (by decide : 1 + 0 ≤ _), (by decide : 2 + 0 ≤ _)⟩)
  dsimp only [Pt.U, Pt.locs, Pt.cells, Pt.slots] at X10 l10 y10 z10 st10 hQ10
  subst l10 y10 z10
  obtain ⟨rfl, N10q, K10, f11⟩ := hQ10
  have KK10 : Keep h0 T10.heap [] := Keep.trans KK1 K10 (allS (Or.inr zt_1) all0)
  have N10 := Fr.app N1 N10q
  obtain ⟨fs, hr, hrun, hended, hW, hsame⟩ := X10.leave (v := some (.ref t_1)) (fun h => by rw [Bd.returns] at h; cases h)
  refine ⟨_, _, pre0 _ ?_, hrun, hended, _, _, rfl, ?_, ⟨_, rfl⟩, hW, hsame.mono (by decide) (by decide)⟩
  · refine XS.iloadN X0.here hx rfl (hb hby d7_0) rfl ?_
    show Steps _ _ _ (s₁.setTop (mkF m 1 #[rv u0, iv (0 : Int32), iv (1 : Int32), .unset, .unset] [(.int (1 : Int32))])) _
    refine st1 _ ?_
    refine XS.astoreN X1.here hx rfl (hb hby d7_4) rfl rfl (l' := #[rv u0, iv (0 : Int32), iv (1 : Int32), rv t_1, .unset]) rfl ?_
    refine XS.iconst X1.here hx rfl (hb hby d7_5) ?_
    refine XS.istore X1.here hx rfl (hb hby d7_6) rfl (l' := #[rv u0, iv (0 : Int32), iv (1 : Int32), rv t_1, iv (0 : Int32)]) rfl ?_
    refine XS.iload X1.here hx rfl (hb hby d7_8) rfl ?_
    refine XS.iloadN X1.here hx rfl (hb hby d7_10) rfl ?_
    refine XS.icmpNo X1.here hx rfl (hb hby d7_11) rfl (tlt (by decide : (0 : Int32) < (1 : Int32))).2.1 ?_
    refine XS.aloadN X1.here hx rfl (hb hby d7_14) rfl rfl ?_
    refine XS.iload X1.here hx rfl (hb hby d7_15) rfl ?_
    refine XS.aloadN X1.here hx rfl (hb hby d7_17) rfl rfl ?_
    refine XS.iloadN X1.here hx rfl (hb hby d7_18) rfl ?_
    refine X1.caload hx (j := (0 : Int32)) (v := (.int c0)) Ar5.1 (State.isArrayOf_alike hZ.alike Ar5.2.1) Ar5.2.2 hin5 hat5 (g := (mkF m 19 #[rv u0, iv (0 : Int32), iv (1 : Int32), rv t_1, iv (0 : Int32)] [(.int (0 : Int32)), (.ref u0), (.int (0 : Int32)), (.ref t_1)])) rfl rfl (hb hby d7_19) _ ?_
    show Steps _ _ _ (T1.setTop (mkF m 20 #[rv u0, iv (0 : Int32), iv (1 : Int32), rv t_1, iv (0 : Int32)] [(.int c0), (.int (0 : Int32)), (.ref t_1)])) _
    refine st10 _ ?_
    refine XS.iinc X10.here hx rfl (hb hby d7_23) rfl (l' := #[rv u0, iv (1 : Int32), iv (1 : Int32), rv t_1, iv (0 : Int32)]) rfl ?_
    refine XS.iinc X10.here hx rfl (hb hby d7_26) rfl (l' := #[rv u0, iv (1 : Int32), iv (1 : Int32), rv t_1, iv (1 : Int32)]) rfl ?_
    refine XS.goto X10.here hx rfl (pc0 := 29) (pc' := 8) rfl (hb hby d7_29) (by decide) (by decide) ?_
    refine XS.iload X10.here hx rfl (hb hby d7_8) rfl ?_
    refine XS.iloadN X10.here hx rfl (hb hby d7_10) rfl ?_
    refine XS.icmpYes X10.here hx rfl (pc0 := 11) (pc' := 32) rfl (hb hby d7_11) rfl (flt (by decide : ¬ ((1 : Int32) < (1 : Int32)))).2.1 (by decide) (by decide) ?_
    refine XS.aloadN X10.here hx rfl (hb hby d7_32) rfl rfl ?_
    show Steps _ _ _ (T10.setTop (mkF m 33 #[rv u0, iv (1 : Int32), iv (1 : Int32), rv t_1, iv (1 : Int32)] [(.ref t_1)])) _
    exact retOut X10 hx Bd.returns rfl (Or.inr (Or.inr (Or.inr (Or.inr ⟨rfl, rfl, rfl⟩)))) (hb hby d7_33) hr
  · show Q_rmTB1 Z u0 kA c0 h0 n0 _ T10.heap _
    exact ⟨t_1, kt_1, rfl, N10, KK10, zt_1, f11⟩

theorem ef_rmC5_1_0 (m : MethodId) (x0 : Addr) (x1 : Int32) (x2 : Addr) (x3 : Int32) (x4 : Int32) : entryFrame m #[(.ref x0), (.int x1), (.ref x2), (.int x3), (.int x4)] 7 = mkF m 0 #[rv x0, iv x1, rv x2, iv x3, iv x4, .unset, .unset] [] := by first | (simp [entryFrame, mkF, argsToLocals, Value.category]; done) | rfl
def Q_rmC5_1_0 (Z : State) (u0 : Addr) (u2 : Addr) (kA : ClassId) (c0 : Int32) (kB : ClassId) (d0 : Int32) (h0 : Heap) (n0 : Nat) (v : Option Value) (h : Heap) (L : List Loc) : Prop := (v = (some (.int (0 : Int32))) ∧ Fr n0 L ∧ Keep h0 h [u2] ∧ Arv Z h u2 kB .byte (1 : Int32) [(.int d0)] (.int (0 : Int32)))
set_option maxRecDepth 65536 in
set_option maxHeartbeats 40000000 in
theorem rmC5_1_0 (l : Launch) (Z : State) (a0 : Array Value) (hw : ∀ d ∈ tables_1, d.before a0 Z = true) (ws : List Jvm.Cond) (u0 : Addr) (u2 : Addr) (kA : ClassId) (c0 : Int32) (kB : ClassId) (d0 : Int32) (h0 : Heap) (n0 : Nat) (Z0 : n0 ≤ h0.size) (P_V_u0 : Arv Z h0 u0 kA .char (1 : Int32) [(.int c0)] (.int (0 : Int32))) (P_V_u2 : Arv Z h0 u2 kB .byte (1 : Int32) [(.int d0)] (.int (0 : Int32))) (neA : u0 ≠ u2) (hp0 : (255 : Int32) < c0) (g_u2 : n0 ≤ u2) :
    MetFree l own_y5 (head1 (Jvm.Cond.code own_y5 jdk_52_method_21_code 7 (some .int) :: ws) ({ frames := 0, cells := 0, slots := 0, locals := 0 } : Room)) (fun a U => a = #[(.ref u0), (.int (0 : Int32)), (.ref u2), (.int (0 : Int32)), (.int (1 : Int32))] ∧ Z.Warmed39 U.vm ∧ U.heap = h0) (fun _ _ _ _ _ => True) (fun _ U o U' => ∃ v L, o = .returned v ∧ Q_rmC5_1_0 Z u0 u2 kA c0 kB d0 h0 n0 v U'.heap L ∧ FrameEnd U o U' L ({ frames := 0, cells := 0, slots := 0, locals := 0 } : Room).cells ({ frames := 0, cells := 0, slots := 0, locals := 0 } : Room).slots) := by
  refine MetFree.of_bodySF (plainFor_of_name pn_6) hisR ?_
  intro p e s m args below meth c s₁ Bd hml0 hP hK
  obtain ⟨rfl, hZ, hh⟩ := hP
  have hx := Bd.exec
  have hby := Bd.bytes
  have hml : c.maxLocals = 7 := hml0
  have hown : s.vm.findClass "java/lang/StringUTF16" = some m.cls := findClass_of_methodNamed Bd.named
  have hnm := (name_of_methodNamed Bd.named Bd.method).1
  have X0 : Stand p l e ({ frames := 0, cells := 0, slots := 0, locals := 0 } : Room) s m #[(.ref u0), (.int (0 : Int32)), (.ref u2), (.int (0 : Int32)), (.int (1 : Int32))] below meth c s₁ [] 0 0 := Stand.of_body Bd
  have e0 : s₁.heap = h0 := by rw [← hh, Bd.state]; rfl
  have N0 := Fr.nil n0
  have pre0 : ∀ t, Steps p.tables e below (s₁.setTop (mkF m 0 #[rv u0, iv (0 : Int32), rv u2, iv (0 : Int32), iv (1 : Int32), .unset, .unset] [])) t → Steps p.tables e below (s₁.setTop (entryFrame m #[(.ref u0), (.int (0 : Int32)), (.ref u2), (.int (0 : Int32)), (.int (1 : Int32))] 7)) t := fun t k => castTop (ef_rmC5_1_0 m u0 (0 : Int32) u2 (0 : Int32) (1 : Int32)) k
  obtain ⟨cl1, Ar1, qq1, S1, N1_, H1, G1⟩ := id P_V_u0
  have hin1 : ¬ ((0 : Int32) < 0 ∨ cl1.slots.size ≤ ((0 : Int32)).toNatClampNeg) := inb_of S1 ⟨by decide, by decide⟩
  have hat1 : cl1.slots[((0 : Int32)).toNatClampNeg]? = some (.int c0) := H1.at hin1 rfl
  obtain ⟨fs, hr, hrun, hended, hW, hsame⟩ := X0.leave (v := some (.int (0 : Int32))) (fun h => by rw [Bd.returns] at h; cases h)
  refine ⟨_, _, pre0 _ ?_, hrun, hended, _, _, rfl, ?_, ⟨_, rfl⟩, hW, hsame.mono (by decide) (by decide)⟩
  · refine XS.iconst X0.here hx rfl (hb hby d6_0) ?_
    refine XS.istore X0.here hx rfl (hb hby d6_1) rfl (l' := #[rv u0, iv (0 : Int32), rv u2, iv (0 : Int32), iv (1 : Int32), iv (0 : Int32), .unset]) rfl ?_
    refine XS.iload X0.here hx rfl (hb hby d6_3) rfl ?_
    refine XS.iload X0.here hx rfl (hb hby d6_5) rfl ?_
    refine XS.icmpNo X0.here hx rfl (hb hby d6_7) rfl (tlt (by decide : (0 : Int32) < (1 : Int32))).2.1 ?_
    refine XS.aloadN X0.here hx rfl (hb hby d6_10) rfl rfl ?_
    refine XS.iloadN X0.here hx rfl (hb hby d6_11) rfl ?_
    refine X0.caload hx (j := (0 : Int32)) (v := (.int c0)) (by rw [e0]; exact Ar1.1) (State.isArrayOf_alike hZ.alike Ar1.2.1) Ar1.2.2 hin1 hat1 (g := (mkF m 12 #[rv u0, iv (0 : Int32), rv u2, iv (0 : Int32), iv (1 : Int32), iv (0 : Int32), .unset] [(.int (0 : Int32)), (.ref u0)])) rfl rfl (hb hby d6_12) _ ?_
    refine XS.istore X0.here hx rfl (hb hby d6_13) rfl (l' := #[rv u0, iv (0 : Int32), rv u2, iv (0 : Int32), iv (1 : Int32), iv (0 : Int32), iv c0]) rfl ?_
    refine XS.iload X0.here hx rfl (hb hby d6_15) rfl ?_
    refine XS.sipush X0.here hx rfl (hb hby d6_17) ?_
    refine XS.icmpNo X0.here hx rfl (hb hby d6_20) rfl (tlt hp0).2.2.2 ?_
    refine XS.iload X0.here hx rfl (hb hby d6_23) rfl ?_
    show Steps _ _ _ (s₁.setTop (mkF m 25 #[rv u0, iv (0 : Int32), rv u2, iv (0 : Int32), iv (1 : Int32), iv (0 : Int32), iv c0] [(.int (0 : Int32))])) _
    exact retI X0 hx Bd.returns (hb hby d6_25) hr
  · show Q_rmC5_1_0 Z u0 u2 kA c0 kB d0 h0 n0 _ s₁.heap _
    rw [e0]
    exact ⟨rfl, N0, (Keep.refl h0 [u2]), P_V_u2⟩

theorem ef_rmC5_1_1 (m : MethodId) (x0 : Addr) (x1 : Int32) (x2 : Addr) (x3 : Int32) (x4 : Int32) : entryFrame m #[(.ref x0), (.int x1), (.ref x2), (.int x3), (.int x4)] 7 = mkF m 0 #[rv x0, iv x1, rv x2, iv x3, iv x4, .unset, .unset] [] := by first | (simp [entryFrame, mkF, argsToLocals, Value.category]; done) | rfl
def Q_rmC5_1_1 (Z : State) (u0 : Addr) (u2 : Addr) (kA : ClassId) (c0 : Int32) (kB : ClassId) (d0 : Int32) (h0 : Heap) (n0 : Nat) (v : Option Value) (h : Heap) (L : List Loc) : Prop := (v = (some (.int (1 : Int32))) ∧ Fr n0 L ∧ Keep h0 h [u2] ∧ Arv Z h u2 kB .byte (1 : Int32) [(.int ((c0.toInt8.toInt32).toInt8.toInt32))] (.int (0 : Int32)))
set_option maxRecDepth 65536 in
set_option maxHeartbeats 40000000 in
theorem rmC5_1_1 (l : Launch) (Z : State) (a0 : Array Value) (hw : ∀ d ∈ tables_1, d.before a0 Z = true) (ws : List Jvm.Cond) (u0 : Addr) (u2 : Addr) (kA : ClassId) (c0 : Int32) (kB : ClassId) (d0 : Int32) (h0 : Heap) (n0 : Nat) (Z0 : n0 ≤ h0.size) (P_V_u0 : Arv Z h0 u0 kA .char (1 : Int32) [(.int c0)] (.int (0 : Int32))) (P_V_u2 : Arv Z h0 u2 kB .byte (1 : Int32) [(.int d0)] (.int (0 : Int32))) (neA : u0 ≠ u2) (hp0 : ¬ ((255 : Int32) < c0)) (g_u2 : n0 ≤ u2) :
    MetFree l own_y5 (head1 (Jvm.Cond.code own_y5 jdk_52_method_21_code 7 (some .int) :: ws) ({ frames := 0, cells := 0, slots := 0, locals := 0 } : Room)) (fun a U => a = #[(.ref u0), (.int (0 : Int32)), (.ref u2), (.int (0 : Int32)), (.int (1 : Int32))] ∧ Z.Warmed39 U.vm ∧ U.heap = h0) (fun _ _ _ _ _ => True) (fun _ U o U' => ∃ v L, o = .returned v ∧ Q_rmC5_1_1 Z u0 u2 kA c0 kB d0 h0 n0 v U'.heap L ∧ FrameEnd U o U' L ({ frames := 0, cells := 0, slots := 0, locals := 0 } : Room).cells ({ frames := 0, cells := 0, slots := 0, locals := 0 } : Room).slots) := by
  refine MetFree.of_bodySF (plainFor_of_name pn_6) hisR ?_
  intro p e s m args below meth c s₁ Bd hml0 hP hK
  obtain ⟨rfl, hZ, hh⟩ := hP
  have hx := Bd.exec
  have hby := Bd.bytes
  have hml : c.maxLocals = 7 := hml0
  have hown : s.vm.findClass "java/lang/StringUTF16" = some m.cls := findClass_of_methodNamed Bd.named
  have hnm := (name_of_methodNamed Bd.named Bd.method).1
  have X0 : Stand p l e ({ frames := 0, cells := 0, slots := 0, locals := 0 } : Room) s m #[(.ref u0), (.int (0 : Int32)), (.ref u2), (.int (0 : Int32)), (.int (1 : Int32))] below meth c s₁ [] 0 0 := Stand.of_body Bd
  have e0 : s₁.heap = h0 := by rw [← hh, Bd.state]; rfl
  have N0 := Fr.nil n0
  have pre0 : ∀ t, Steps p.tables e below (s₁.setTop (mkF m 0 #[rv u0, iv (0 : Int32), rv u2, iv (0 : Int32), iv (1 : Int32), .unset, .unset] [])) t → Steps p.tables e below (s₁.setTop (entryFrame m #[(.ref u0), (.int (0 : Int32)), (.ref u2), (.int (0 : Int32)), (.int (1 : Int32))] 7)) t := fun t k => castTop (ef_rmC5_1_1 m u0 (0 : Int32) u2 (0 : Int32) (1 : Int32)) k
  obtain ⟨cl1, Ar1, qq1, S1, N1_, H1, G1⟩ := id P_V_u0
  have hin1 : ¬ ((0 : Int32) < 0 ∨ cl1.slots.size ≤ ((0 : Int32)).toNatClampNeg) := inb_of S1 ⟨by decide, by decide⟩
  have hat1 : cl1.slots[((0 : Int32)).toNatClampNeg]? = some (.int c0) := H1.at hin1 rfl
  obtain ⟨cl2, Ar2, qq2, S2, N2_, H2, G2⟩ := id P_V_u2
  have hin2 : ¬ ((0 : Int32) < 0 ∨ cl2.slots.size ≤ ((0 : Int32)).toNatClampNeg) := inb_of S2 ⟨by decide, by decide⟩
  obtain ⟨T3, h3, X3, e3, W3, st3⟩ := stB X0 hx hZ e0 Ar2 (j := (0 : Int32)) hin2 (g := (mkF m 31 #[rv u0, iv (0 : Int32), rv u2, iv (0 : Int32), iv (1 : Int32), iv (0 : Int32), iv c0] [(.int (c0.toInt8.toInt32)), (.int (0 : Int32)), (.ref u2)])) rfl rfl (hb hby d6_31)
  have V3 : Arv Z h3 u2 kB .byte (1 : Int32) [(.int ((c0.toInt8.toInt32).toInt8.toInt32))] (.int (0 : Int32)) := Arv.set Ar2 qq2 S2 N2_ H2 G2 (fits_nar_byte _) W3 0 rfl (Nat.le_of_ble_eq_true rfl)
  have N4 := Fr.snoc X3 N0 g_u2
  have K5 : Keep h0 h3 [u2] := (Keep.refl h0 [u2]).wr W3 (Or.inl (List.mem_of_getElem? (i := 0) rfl))
  obtain ⟨fs, hr, hrun, hended, hW, hsame⟩ := X3.leave (v := some (.int (1 : Int32))) (fun h => by rw [Bd.returns] at h; cases h)
  refine ⟨_, _, pre0 _ ?_, hrun, hended, _, _, rfl, ?_, ⟨_, rfl⟩, hW, hsame.mono (by decide) (by decide)⟩
  · refine XS.iconst X0.here hx rfl (hb hby d6_0) ?_
    refine XS.istore X0.here hx rfl (hb hby d6_1) rfl (l' := #[rv u0, iv (0 : Int32), rv u2, iv (0 : Int32), iv (1 : Int32), iv (0 : Int32), .unset]) rfl ?_
    refine XS.iload X0.here hx rfl (hb hby d6_3) rfl ?_
    refine XS.iload X0.here hx rfl (hb hby d6_5) rfl ?_
    refine XS.icmpNo X0.here hx rfl (hb hby d6_7) rfl (tlt (by decide : (0 : Int32) < (1 : Int32))).2.1 ?_
    refine XS.aloadN X0.here hx rfl (hb hby d6_10) rfl rfl ?_
    refine XS.iloadN X0.here hx rfl (hb hby d6_11) rfl ?_
    refine X0.caload hx (j := (0 : Int32)) (v := (.int c0)) (by rw [e0]; exact Ar1.1) (State.isArrayOf_alike hZ.alike Ar1.2.1) Ar1.2.2 hin1 hat1 (g := (mkF m 12 #[rv u0, iv (0 : Int32), rv u2, iv (0 : Int32), iv (1 : Int32), iv (0 : Int32), .unset] [(.int (0 : Int32)), (.ref u0)])) rfl rfl (hb hby d6_12) _ ?_
    refine XS.istore X0.here hx rfl (hb hby d6_13) rfl (l' := #[rv u0, iv (0 : Int32), rv u2, iv (0 : Int32), iv (1 : Int32), iv (0 : Int32), iv c0]) rfl ?_
    refine XS.iload X0.here hx rfl (hb hby d6_15) rfl ?_
    refine XS.sipush X0.here hx rfl (hb hby d6_17) ?_
    refine XS.icmpYes X0.here hx rfl (pc0 := 20) (pc' := 26) rfl (hb hby d6_20) rfl (flt hp0).2.2.2 (by decide) (by decide) ?_
    refine XS.aloadN X0.here hx rfl (hb hby d6_26) rfl rfl ?_
    refine XS.iloadN X0.here hx rfl (hb hby d6_27) rfl ?_
    refine XS.iload X0.here hx rfl (hb hby d6_28) rfl ?_
    refine XS.i2b X0.here hx rfl (hb hby d6_30) rfl ?_
    refine st3 _ ?_
    refine XS.iinc X3.here hx rfl (hb hby d6_32) rfl (l' := #[rv u0, iv (1 : Int32), rv u2, iv (0 : Int32), iv (1 : Int32), iv (0 : Int32), iv c0]) rfl ?_
    refine XS.iinc X3.here hx rfl (hb hby d6_35) rfl (l' := #[rv u0, iv (1 : Int32), rv u2, iv (1 : Int32), iv (1 : Int32), iv (0 : Int32), iv c0]) rfl ?_
    refine XS.iinc X3.here hx rfl (hb hby d6_38) rfl (l' := #[rv u0, iv (1 : Int32), rv u2, iv (1 : Int32), iv (1 : Int32), iv (1 : Int32), iv c0]) rfl ?_
    refine XS.goto X3.here hx rfl (pc0 := 41) (pc' := 3) rfl (hb hby d6_41) (by decide) (by decide) ?_
    refine XS.iload X3.here hx rfl (hb hby d6_3) rfl ?_
    refine XS.iload X3.here hx rfl (hb hby d6_5) rfl ?_
    show Steps _ _ _ (T3.setTop (mkF m 7 #[rv u0, iv (1 : Int32), rv u2, iv (1 : Int32), iv (1 : Int32), iv (1 : Int32), iv c0] [(.int (1 : Int32)), (.int (1 : Int32))])) _
    refine XS.icmpYes X3.here hx rfl (pc0 := 7) (pc' := 44) rfl (hb hby d6_7) rfl (flt (by decide : ¬ ((1 : Int32) < (1 : Int32)))).2.1 (by decide) (by decide) ?_
    refine XS.iload X3.here hx rfl (hb hby d6_44) rfl ?_
    show Steps _ _ _ (T3.setTop (mkF m 46 #[rv u0, iv (1 : Int32), rv u2, iv (1 : Int32), iv (1 : Int32), iv (1 : Int32), iv c0] [(.int (1 : Int32))])) _
    exact retI X3 hx Bd.returns (hb hby d6_46) hr
  · show Q_rmC5_1_1 Z u0 u2 kA c0 kB d0 h0 n0 _ T3.heap _
    rw [e3]
    exact ⟨rfl, N4, K5, V3⟩

theorem ef_rmC3_1 (m : MethodId) (x0 : Addr) (x1 : Int32) (x2 : Int32) : entryFrame m #[(.ref x0), (.int x1), (.int x2)] 6 = mkF m 0 #[rv x0, iv x1, iv x2, .unset, .unset, .unset] [] := by first | (simp [entryFrame, mkF, argsToLocals, Value.category]; done) | rfl
def Q_rmC3_1 (Z : State) (u0 : Addr) (kA : ClassId) (c0 : Int32) (h0 : Heap) (n0 : Nat) (v : Option Value) (h : Heap) (L : List Loc) : Prop := ∃ (t : Addr), ∃ (kt : ClassId), ∃ (z : Int32), ∃ (vs : List Value), (v = (some (.ref t)) ∧ Fr n0 L ∧ Keep h0 h [] ∧ h0.size ≤ t ∧ Arv Z h t kt .byte z vs (.int 0) ∧ (z = (1 : Int32) ∨ z = (2 : Int32)))
set_option maxRecDepth 65536 in
set_option maxHeartbeats 40000000 in
theorem rmC3_1 (l : Launch) (Z : State) (a0 : Array Value) (hw : ∀ d ∈ tables_1, d.before a0 Z = true) (ws : List Jvm.Cond) (u0 : Addr) (kA : ClassId) (c0 : Int32) (h0 : Heap) (n0 : Nat) (Z0 : n0 ≤ h0.size) (P_S_StringUTF16__assertionsDisabled : Sta Z h0 "java/lang/StringUTF16" "$assertionsDisabled" "Z" (.int (1 : Int32))) (P_S_StringUTF16_HI_BYTE_SHIFT : Sta Z h0 "java/lang/StringUTF16" "HI_BYTE_SHIFT" "I" (.int (0 : Int32))) (P_S_StringUTF16_LO_BYTE_SHIFT : Sta Z h0 "java/lang/StringUTF16" "LO_BYTE_SHIFT" "I" (.int (8 : Int32))) (P_V_u0 : Arv Z h0 u0 kA .char (1 : Int32) [(.int c0)] (.int (0 : Int32))) (hr0 : ¬ c0 < 0 ∧ ¬ (65535 : Int32) < c0) :
    MetFree l own_y6 (head1 (Jvm.Cond.code own_y6 jdk_52_method_16_code 6 (some (.array .byte)) :: ws) ({ frames := 3, cells := 2, slots := 3, locals := 40 } : Room)) (fun a U => a = #[(.ref u0), (.int (0 : Int32)), (.int (1 : Int32))] ∧ Z.Warmed39 U.vm ∧ U.heap = h0) (fun _ _ _ _ _ => True) (fun _ U o U' => ∃ v L, o = .returned v ∧ Q_rmC3_1 Z u0 kA c0 h0 n0 v U'.heap L ∧ FrameEnd U o U' L ({ frames := 3, cells := 2, slots := 3, locals := 40 } : Room).cells ({ frames := 3, cells := 2, slots := 3, locals := 40 } : Room).slots) := by
  refine MetFree.of_bodySF (plainFor_of_name pn_5) hisR ?_
  intro p e s m args below meth c s₁ Bd hml0 hP hK
  obtain ⟨rfl, hZ, hh⟩ := hP
  have hx := Bd.exec
  have hby := Bd.bytes
  have hml : c.maxLocals = 6 := hml0
  have hown : s.vm.findClass "java/lang/StringUTF16" = some m.cls := findClass_of_methodNamed Bd.named
  have hnm := (name_of_methodNamed Bd.named Bd.method).1
  have X0 : Stand p l e ({ frames := 3, cells := 2, slots := 3, locals := 40 } : Room) s m #[(.ref u0), (.int (0 : Int32)), (.int (1 : Int32))] below meth c s₁ [] 0 0 := Stand.of_body Bd
  have e0 : s₁.heap = h0 := by rw [← hh, Bd.state]; rfl
  have N0 := Fr.nil n0
  have pre0 : ∀ t, Steps p.tables e below (s₁.setTop (mkF m 0 #[rv u0, iv (0 : Int32), iv (1 : Int32), .unset, .unset, .unset] [])) t → Steps p.tables e below (s₁.setTop (entryFrame m #[(.ref u0), (.int (0 : Int32)), (.int (1 : Int32))] 6)) t := fun t k => castTop (ef_rmC3_1 m u0 (0 : Int32) (1 : Int32)) k
  obtain ⟨T1, h1, k1, X1, e1, E1, A1, st1⟩ := newP X0 hx hZ (own_g hw 25 rfl) e0 (g := (mkF m 1 #[rv u0, iv (0 : Int32), iv (1 : Int32), .unset, .unset, .unset] [(.int (1 : Int32))])) rfl (hb hby d5_1) rfl (by decide) (cap := 1) (by decide) (by decide) (by decide) (by decide)
  obtain ⟨b1, g1⟩ : ∃ z, z = h0.size := ⟨_, rfl⟩
  rw [← g1] at A1 st1
  have ne2 : u0 ≠ b1 := Nat.ne_of_lt (Nat.lt_of_lt_of_le P_V_u0.lt (Nat.le_of_eq g1.symm))
  have o1 : n0 ≤ b1 := Nat.le_trans Z0 (Nat.le_of_eq g1.symm)
  have z1 : h0.size ≤ b1 := Nat.le_trans (Keep.refl h0 []).1 (Nat.le_of_eq g1.symm)
  have K1 : Keep h0 h1 [] := (Keep.refl h0 []).ext E1
  have V1 : Arv Z h1 b1 k1 .byte (1 : Int32) [(.int (0 : Int32))] (.int (0 : Int32)) := (Arv.new A1 (by decide)).pad (pad_rep [] (.int (0 : Int32)) 1)
  have pre4 : ∀ t, Steps p.tables e below (T1.setTop (mkF m 9 #[rv u0, iv (0 : Int32), iv (1 : Int32), rv b1, .unset, .unset] [(.int (1 : Int32)), (.int (0 : Int32)), (.ref b1), (.int (0 : Int32)), (.ref u0)])) t → Steps p.tables e below (s₁.setTop (entryFrame m #[(.ref u0), (.int (0 : Int32)), (.int (1 : Int32))] 6)) t := fun t kt => pre0 t (by
   refine XS.iloadN X0.here hx rfl (hb hby d5_0) rfl ?_
   refine st1 _ ?_
   refine XS.astoreN X1.here hx rfl (hb hby d5_3) rfl rfl (l' := #[rv u0, iv (0 : Int32), iv (1 : Int32), rv b1, .unset, .unset]) rfl ?_
   refine XS.aloadN X1.here hx rfl (hb hby d5_4) rfl rfl ?_
   refine XS.iloadN X1.here hx rfl (hb hby d5_5) rfl ?_
   refine XS.aloadN X1.here hx rfl (hb hby d5_6) rfl rfl ?_
   refine XS.iconst X1.here hx rfl (hb hby d5_7) ?_
   refine XS.iloadN X1.here hx rfl (hb hby d5_8) rfl ?_
   exact kt)
  by_cases hc9_3 : (255 : Int32) < c0
  · have f5 : Arv Z h1 u0 kA .char (1 : Int32) [(.int c0)] (.int (0 : Int32)) := (P_V_u0.ext E1)
    have f6 : n0 ≤ h1.size := (Nat.le_trans Z0 E1.1)
    obtain ⟨_, _, ⟨T7, L7, k7, n7⟩, -, X7, ⟨Lc7, hQ7, l7, y7, z7⟩, st7⟩ := Jvm.LawKit.callS X1 hx (y := own_y5) hown (mvT hZ (own_g hw 26 rfl)) (mvT hZ (own_g hw 27 rfl)) (mvT hZ (own_g hw 23 rfl)) (mvT hZ (own_g hw 28 rfl)) (by decide) (backOf (W := 0) (rmC5_1_0 l Z a0 hw [] u0 b1 kA c0 k1 (0 : Int32) h1 n0 f6 f5 V1 ne2 hc9_3 o1) hZ (own_g hw 28 rfl) (own_g hw 23 rfl) (by decide) (by decide)) (g := (mkF m 9 #[rv u0, iv (0 : Int32), iv (1 : Int32), rv b1, .unset, .unset] [(.int (1 : Int32)), (.int (0 : Int32)), (.ref b1), (.int (0 : Int32)), (.ref u0)])) rfl (by rw [hml]; rfl) (argsL := [(.ref u0), (.int (0 : Int32)), (.ref b1), (.int (0 : Int32)), (.int (1 : Int32))]) (rest := []) (lenOf pd___CI_BII_I rfl) rfl (by show 2 * 0 + _ ≤ _; exact Nat.le_of_eq rfl) (hb hby d5_9) (fun _ _ => ⟨rfl, e1, (by decide : 1 + 0 ≤ _), (by decide : 1 + 0 ≤ _)⟩)
    dsimp only [Pt.U, Pt.locs, Pt.cells, Pt.slots] at X7 l7 y7 z7 st7 hQ7
    subst l7 y7 z7
    obtain ⟨rfl, N7q, K7, f8⟩ := hQ7
    have KK7 : Keep h0 T7.heap [] := Keep.trans K1 K7 (allS (Or.inr z1) all0)
    have N7 := Fr.app N0 N7q
    have f9 : Sta Z T7.heap "java/lang/StringUTF16" "$assertionsDisabled" "Z" (.int (1 : Int32)) := (own_staKeep (P_S_StringUTF16__assertionsDisabled.ext E1) K7 (nsS V1.nostat ns0))
    have f10 : Sta Z T7.heap "java/lang/StringUTF16" "HI_BYTE_SHIFT" "I" (.int (0 : Int32)) := (own_staKeep (P_S_StringUTF16_HI_BYTE_SHIFT.ext E1) K7 (nsS V1.nostat ns0))
    have f11 : Sta Z T7.heap "java/lang/StringUTF16" "LO_BYTE_SHIFT" "I" (.int (8 : Int32)) := (own_staKeep (P_S_StringUTF16_LO_BYTE_SHIFT.ext E1) K7 (nsS V1.nostat ns0))
    have f12 : Arv Z T7.heap u0 kA .char (1 : Int32) [(.int c0)] (.int (0 : Int32)) := (f5.keep K7 (ninS ne2 nin0))
    have f13 : n0 ≤ T7.heap.size := (Nat.le_trans f6 K7.1)
    obtain ⟨_, _, ⟨T14, L14, k14, n14⟩, -, X14, ⟨Lc14, hQ14, l14, y14, z14⟩, st14⟩ := Jvm.LawKit.callS X7 hx (y := own_y4) hown (mvT hZ (own_g hw 29 rfl)) (mvT hZ (own_g hw 30 rfl)) (mvT hZ (own_g hw 23 rfl)) (mvT hZ (own_g hw 31 rfl)) (by decide) (backOf (W := 0) (rmTB1 l Z a0 hw [] u0 kA c0 T7.heap n0 f13 f9 f10 f11 f12) hZ (own_g hw 31 rfl) (own_g hw 23 rfl) (by decide) (by decide)) (g := (mkF m 23 #[rv u0, iv (0 : Int32), iv (1 : Int32), rv b1, iv (0 : Int32), .unset] [(.int (1 : Int32)), (.int (0 : Int32)), (.ref u0)])) rfl (by rw [hml]; rfl) (argsL := [(.ref u0), (.int (0 : Int32)), (.int (1 : Int32))]) (rest := []) (lenOf pd___CII__B rfl) rfl (by show 2 * 0 + _ ≤ _; exact Nat.le_of_eq rfl) (hb hby d5_23) (fun _ _ => ⟨rfl, rfl, (by decide : 1 + 1 ≤ _), (by decide : 1 + 2 ≤ _)⟩)
    dsimp only [Pt.U, Pt.locs, Pt.cells, Pt.slots] at X14 l14 y14 z14 st14 hQ14
    subst l14 y14 z14
    obtain ⟨t_14, kt_14, rfl, N14q, K14, sx14_0, f15⟩ := hQ14
    have ot_14 : n0 ≤ t_14 := Nat.le_trans f13 sx14_0
    have zt_14 : h0.size ≤ t_14 := Nat.le_trans KK7.1 sx14_0
    have ne16 : u0 ≠ t_14 := Nat.ne_of_lt (Nat.lt_of_lt_of_le f12.lt sx14_0)
    have ne17 : b1 ≠ t_14 := Nat.ne_of_lt (Nat.lt_of_lt_of_le f8.lt sx14_0)
    have KK14 : Keep h0 T14.heap [] := Keep.trans KK7 K14 all0
    have N14 := Fr.app N7 N14q
    have f18 : Sta Z T14.heap "java/lang/StringUTF16" "$assertionsDisabled" "Z" (.int (1 : Int32)) := (own_staKeep f9 K14 ns0)
    have f19 : Sta Z T14.heap "java/lang/StringUTF16" "HI_BYTE_SHIFT" "I" (.int (0 : Int32)) := (own_staKeep f10 K14 ns0)
    have f20 : Sta Z T14.heap "java/lang/StringUTF16" "LO_BYTE_SHIFT" "I" (.int (8 : Int32)) := (own_staKeep f11 K14 ns0)
    have f21 : n0 ≤ T14.heap.size := (Nat.le_trans f13 K14.1)
    obtain ⟨_, _, ⟨T22, L22, k22, n22⟩, -, X22, ⟨Lc22, hQ22, l22, y22, z22⟩, st22⟩ := Jvm.LawKit.callS X14 hx (y := own_y3) hown (mvT hZ (own_g hw 45 rfl)) (mvT hZ (own_g hw 46 rfl)) (mvT hZ (own_g hw 23 rfl)) (mvT hZ (own_g hw 47 rfl)) (by decide) (backOf (W := 0) (rmGC1_0 l Z a0 hw [] t_14 kt_14 (((c0 >>> ((0 : Int32) &&& 31)).toInt8.toInt32).toInt8.toInt32) (((c0 >>> ((8 : Int32) &&& 31)).toInt8.toInt32).toInt8.toInt32) T14.heap n0 f21 f18 f19 f20 f15) hZ (own_g hw 47 rfl) (own_g hw 23 rfl) (by decide) (by decide)) (g := (mkF m 32 #[rv u0, iv (0 : Int32), iv (1 : Int32), rv b1, iv (0 : Int32), rv t_14] [(.int (0 : Int32)), (.ref t_14)])) rfl (by rw [hml]; rfl) (argsL := [(.ref t_14), (.int (0 : Int32))]) (rest := []) (lenOf pd___BI_C rfl) rfl (by show 2 * 0 + _ ≤ _; exact Nat.le_of_eq rfl) (hb hby d5_32) (fun _ _ => ⟨rfl, rfl, (by decide : 2 + 0 ≤ _), (by decide : 3 + 0 ≤ _)⟩)
    dsimp only [Pt.U, Pt.locs, Pt.cells, Pt.slots] at X22 l22 y22 z22 st22 hQ22
    subst l22 y22 z22
    obtain ⟨rfl, N22q, e22⟩ := hQ22
    have N22 := Fr.app N14 N22q
    obtain ⟨fs, hr, hrun, hended, hW, hsame⟩ := X22.leave (v := some (.ref t_14)) (fun h => by rw [Bd.returns] at h; cases h)
    refine ⟨_, _, pre4 _ ?_, hrun, hended, _, _, rfl, ?_, ⟨_, rfl⟩, hW, hsame.mono (by decide) (by decide)⟩
    · show Steps _ _ _ (T1.setTop (mkF m 9 #[rv u0, iv (0 : Int32), iv (1 : Int32), rv b1, .unset, .unset] [(.int (1 : Int32)), (.int (0 : Int32)), (.ref b1), (.int (0 : Int32)), (.ref u0)])) _
      refine st7 _ ?_
      refine XS.istore X7.here hx rfl (hb hby d5_12) rfl (l' := #[rv u0, iv (0 : Int32), iv (1 : Int32), rv b1, iv (0 : Int32), .unset]) rfl ?_
      refine XS.iload X7.here hx rfl (hb hby d5_14) rfl ?_
      refine XS.iloadN X7.here hx rfl (hb hby d5_16) rfl ?_
      refine XS.icmpNo X7.here hx rfl (hb hby d5_17) rfl (feq (by decide : ¬ ((0 : Int32) = (1 : Int32)))).1 ?_
      refine XS.aloadN X7.here hx rfl (hb hby d5_20) rfl rfl ?_
      refine XS.iloadN X7.here hx rfl (hb hby d5_21) rfl ?_
      refine XS.iloadN X7.here hx rfl (hb hby d5_22) rfl ?_
      show Steps _ _ _ (T7.setTop (mkF m 23 #[rv u0, iv (0 : Int32), iv (1 : Int32), rv b1, iv (0 : Int32), .unset] [(.int (1 : Int32)), (.int (0 : Int32)), (.ref u0)])) _
      refine st14 _ ?_
      refine XS.astore X14.here hx rfl (hb hby d5_26) rfl rfl (l' := #[rv u0, iv (0 : Int32), iv (1 : Int32), rv b1, iv (0 : Int32), rv t_14]) rfl ?_
      refine XS.aload X14.here hx rfl (hb hby d5_28) rfl rfl ?_
      refine XS.iload X14.here hx rfl (hb hby d5_30) rfl ?_
      show Steps _ _ _ (T14.setTop (mkF m 32 #[rv u0, iv (0 : Int32), iv (1 : Int32), rv b1, iv (0 : Int32), rv t_14] [(.int (0 : Int32)), (.ref t_14)])) _
      refine st22 _ ?_
      refine XS.sipush X22.here hx rfl (hb hby d5_35) ?_
      refine XS.icmpYes X22.here hx rfl (pc0 := 38) (pc' := 54) rfl (hb hby d5_38) rfl (tlt (own_gp hr0 hc9_3)).2.2.1 (by decide) (by decide) ?_
      refine XS.aload X22.here hx rfl (hb hby d5_54) rfl rfl ?_
      show Steps _ _ _ (T22.setTop (mkF m 56 #[rv u0, iv (0 : Int32), iv (1 : Int32), rv b1, iv (0 : Int32), rv t_14] [(.ref t_14)])) _
      exact retOut X22 hx Bd.returns rfl (Or.inr (Or.inr (Or.inr (Or.inr ⟨rfl, rfl, rfl⟩)))) (hb hby d5_56) hr
    · show Q_rmC3_1 Z u0 kA c0 h0 n0 _ T22.heap _
      rw [e22]
      exact ⟨t_14, kt_14, (2 : Int32), [(.int (((c0 >>> ((0 : Int32) &&& 31)).toInt8.toInt32).toInt8.toInt32)), (.int (((c0 >>> ((8 : Int32) &&& 31)).toInt8.toInt32).toInt8.toInt32))], rfl, N22, KK14, zt_14, f15, (Or.inr rfl)⟩
  · have f23 : Arv Z h1 u0 kA .char (1 : Int32) [(.int c0)] (.int (0 : Int32)) := (P_V_u0.ext E1)
    have f24 : n0 ≤ h1.size := (Nat.le_trans Z0 E1.1)
    obtain ⟨_, _, ⟨T25, L25, k25, n25⟩, -, X25, ⟨Lc25, hQ25, l25, y25, z25⟩, st25⟩ := Jvm.LawKit.callS X1 hx (y := own_y5) hown (mvT hZ (own_g hw 26 rfl)) (mvT hZ (own_g hw 27 rfl)) (mvT hZ (own_g hw 23 rfl)) (mvT hZ (own_g hw 28 rfl)) (by decide) (backOf (W := 0) (rmC5_1_1 l Z a0 hw [] u0 b1 kA c0 k1 (0 : Int32) h1 n0 f24 f23 V1 ne2 hc9_3 o1) hZ (own_g hw 28 rfl) (own_g hw 23 rfl) (by decide) (by decide)) (g := (mkF m 9 #[rv u0, iv (0 : Int32), iv (1 : Int32), rv b1, .unset, .unset] [(.int (1 : Int32)), (.int (0 : Int32)), (.ref b1), (.int (0 : Int32)), (.ref u0)])) rfl (by rw [hml]; rfl) (argsL := [(.ref u0), (.int (0 : Int32)), (.ref b1), (.int (0 : Int32)), (.int (1 : Int32))]) (rest := []) (lenOf pd___CI_BII_I rfl) rfl (by show 2 * 0 + _ ≤ _; exact Nat.le_of_eq rfl) (hb hby d5_9) (fun _ _ => ⟨rfl, e1, (by decide : 1 + 0 ≤ _), (by decide : 1 + 0 ≤ _)⟩)
    dsimp only [Pt.U, Pt.locs, Pt.cells, Pt.slots] at X25 l25 y25 z25 st25 hQ25
    subst l25 y25 z25
    obtain ⟨rfl, N25q, K25, f26⟩ := hQ25
    have KK25 : Keep h0 T25.heap [] := Keep.trans K1 K25 (allS (Or.inr z1) all0)
    have N25 := Fr.app N0 N25q
    obtain ⟨fs, hr, hrun, hended, hW, hsame⟩ := X25.leave (v := some (.ref b1)) (fun h => by rw [Bd.returns] at h; cases h)
    refine ⟨_, _, pre4 _ ?_, hrun, hended, _, _, rfl, ?_, ⟨_, rfl⟩, hW, hsame.mono (by decide) (by decide)⟩
    · show Steps _ _ _ (T1.setTop (mkF m 9 #[rv u0, iv (0 : Int32), iv (1 : Int32), rv b1, .unset, .unset] [(.int (1 : Int32)), (.int (0 : Int32)), (.ref b1), (.int (0 : Int32)), (.ref u0)])) _
      refine st25 _ ?_
      refine XS.istore X25.here hx rfl (hb hby d5_12) rfl (l' := #[rv u0, iv (0 : Int32), iv (1 : Int32), rv b1, iv (1 : Int32), .unset]) rfl ?_
      refine XS.iload X25.here hx rfl (hb hby d5_14) rfl ?_
      show Steps _ _ _ (T25.setTop (mkF m 16 #[rv u0, iv (0 : Int32), iv (1 : Int32), rv b1, iv (1 : Int32), .unset] [(.int (1 : Int32))])) _
      refine XS.iloadN X25.here hx rfl (hb hby d5_16) rfl ?_
      refine XS.icmpYes X25.here hx rfl (pc0 := 17) (pc' := 57) rfl (hb hby d5_17) rfl (teq (by decide : (1 : Int32) = (1 : Int32))).1 (by decide) (by decide) ?_
      refine XS.aloadN X25.here hx rfl (hb hby d5_57) rfl rfl ?_
      show Steps _ _ _ (T25.setTop (mkF m 58 #[rv u0, iv (0 : Int32), iv (1 : Int32), rv b1, iv (1 : Int32), .unset] [(.ref b1)])) _
      exact retOut X25 hx Bd.returns rfl (Or.inr (Or.inr (Or.inr (Or.inr ⟨rfl, rfl, rfl⟩)))) (hb hby d5_58) hr
    · show Q_rmC3_1 Z u0 kA c0 h0 n0 _ T25.heap _
      exact ⟨b1, k1, (1 : Int32), [(.int ((c0.toInt8.toInt32).toInt8.toInt32))], rfl, N25, KK25, z1, f26, (Or.inl rfl)⟩

theorem ef_rmCF1_1 (m : MethodId) (x0 : Addr) (x1 : Int32) : entryFrame m #[(.ref x0), (.int x1)] 2 = mkF m 0 #[rv x0, iv x1] [] := by first | (simp [entryFrame, mkF, argsToLocals, Value.category]; done) | rfl
set_option maxRecDepth 65536 in
set_option maxHeartbeats 40000000 in
theorem rmCF1_1 (l : Launch) (Z : State) (a0 : Array Value) (hw : ∀ d ∈ tables_1, d.before a0 Z = true) (ws : List Jvm.Cond) (u0 : Addr) (kt : ClassId) (vs : List Value) (h0 : Heap) (n0 : Nat) (Z0 : n0 ≤ h0.size) (P_G_u0 : Arv Z h0 u0 kt .byte (1 : Int32) vs (.int 0)) :
    MetFree l own_y7 (head1 (Jvm.Cond.code own_y7 jdk_52_method_15_code 2 (some .byte) :: ws) ({ frames := 0, cells := 0, slots := 0, locals := 0 } : Room)) (fun a U => a = #[(.ref u0), (.int (1 : Int32))] ∧ Z.Warmed39 U.vm ∧ U.heap = h0) (fun _ _ _ _ _ => True) (fun _ U o U' => ∃ v L, o = .returned v ∧ own_QP (some (.int (0 : Int32))) h0 n0 v U'.heap L ∧ FrameEnd U o U' L ({ frames := 0, cells := 0, slots := 0, locals := 0 } : Room).cells ({ frames := 0, cells := 0, slots := 0, locals := 0 } : Room).slots) := by
  refine MetFree.of_bodySF (plainFor_of_name pn_12) hisR ?_
  intro p e s m args below meth c s₁ Bd hml0 hP hK
  obtain ⟨rfl, hZ, hh⟩ := hP
  have hx := Bd.exec
  have hby := Bd.bytes
  have hml : c.maxLocals = 2 := hml0
  have hown : s.vm.findClass "java/lang/StringUTF16" = some m.cls := findClass_of_methodNamed Bd.named
  have hnm := (name_of_methodNamed Bd.named Bd.method).1
  have X0 : Stand p l e ({ frames := 0, cells := 0, slots := 0, locals := 0 } : Room) s m #[(.ref u0), (.int (1 : Int32))] below meth c s₁ [] 0 0 := Stand.of_body Bd
  have e0 : s₁.heap = h0 := by rw [← hh, Bd.state]; rfl
  have N0 := Fr.nil n0
  have pre0 : ∀ t, Steps p.tables e below (s₁.setTop (mkF m 0 #[rv u0, iv (1 : Int32)] [])) t → Steps p.tables e below (s₁.setTop (entryFrame m #[(.ref u0), (.int (1 : Int32))] 2)) t := fun t k => castTop (ef_rmCF1_1 m u0 (1 : Int32)) k
  obtain ⟨cl1, Ar1, qq1, S1, N1_, H1, G1⟩ := id P_G_u0
  obtain ⟨fs, hr, hrun, hended, hW, hsame⟩ := X0.leave (v := some (.int (0 : Int32))) (fun h => by rw [Bd.returns] at h; cases h)
  refine ⟨_, _, pre0 _ ?_, hrun, hended, _, _, rfl, ?_, ⟨_, rfl⟩, hW, hsame.mono (by decide) (by decide)⟩
  · refine XS.iloadN X0.here hx rfl (hb hby d12_0) rfl ?_
    refine XS.aloadN X0.here hx rfl (hb hby d12_1) rfl rfl ?_
    refine X0.arraylength hx (by rw [e0]; exact Ar1.1) (State.isArrayOf_alike hZ.alike Ar1.2.1) (g := (mkF m 2 #[rv u0, iv (1 : Int32)] [(.ref u0), (.int (1 : Int32))])) rfl rfl (hb hby d12_2) _ ?_
    rw [len_of S1 N1_]
    refine XS.isub X0.here hx rfl (hb hby d12_3) rfl ?_
    refine XS.bipush X0.here hx rfl (hb hby d12_4) ?_
    refine XS.iushr X0.here hx rfl (hb hby d12_6) rfl ?_
    show Steps _ _ _ (s₁.setTop (mkF m 7 #[rv u0, iv (1 : Int32)] [(.int (((0 : Int32).toUInt32 >>> ((31 : Int32) &&& 31).toUInt32).toInt32))])) _
    rw [(by decide : (((0 : Int32).toUInt32 >>> ((31 : Int32) &&& 31).toUInt32).toInt32) = (0 : Int32))]
    refine XS.i2b X0.here hx rfl (hb hby d12_7) rfl ?_
    show Steps _ _ _ (s₁.setTop (mkF m 8 #[rv u0, iv (1 : Int32)] [(.int ((0 : Int32).toInt8.toInt32))])) _
    rw [(by decide : ((0 : Int32).toInt8.toInt32) = (0 : Int32))]
    show Steps _ _ _ (s₁.setTop (mkF m 8 #[rv u0, iv (1 : Int32)] [(.int (0 : Int32))])) _
    exact retN X0 hx (t := .byte) Bd.returns (by simp) (hb hby d12_8) hr
  · show own_QP (some (.int (0 : Int32))) h0 n0 _ s₁.heap _
    rw [e0]
    exact ⟨rfl, N0, rfl⟩

theorem ef_rmCF1_2 (m : MethodId) (x0 : Addr) (x1 : Int32) : entryFrame m #[(.ref x0), (.int x1)] 2 = mkF m 0 #[rv x0, iv x1] [] := by first | (simp [entryFrame, mkF, argsToLocals, Value.category]; done) | rfl
set_option maxRecDepth 65536 in
set_option maxHeartbeats 40000000 in
theorem rmCF1_2 (l : Launch) (Z : State) (a0 : Array Value) (hw : ∀ d ∈ tables_1, d.before a0 Z = true) (ws : List Jvm.Cond) (u0 : Addr) (kt : ClassId) (vs : List Value) (h0 : Heap) (n0 : Nat) (Z0 : n0 ≤ h0.size) (P_G_u0 : Arv Z h0 u0 kt .byte (2 : Int32) vs (.int 0)) :
    MetFree l own_y7 (head1 (Jvm.Cond.code own_y7 jdk_52_method_15_code 2 (some .byte) :: ws) ({ frames := 0, cells := 0, slots := 0, locals := 0 } : Room)) (fun a U => a = #[(.ref u0), (.int (1 : Int32))] ∧ Z.Warmed39 U.vm ∧ U.heap = h0) (fun _ _ _ _ _ => True) (fun _ U o U' => ∃ v L, o = .returned v ∧ own_QP (some (.int (1 : Int32))) h0 n0 v U'.heap L ∧ FrameEnd U o U' L ({ frames := 0, cells := 0, slots := 0, locals := 0 } : Room).cells ({ frames := 0, cells := 0, slots := 0, locals := 0 } : Room).slots) := by
  refine MetFree.of_bodySF (plainFor_of_name pn_12) hisR ?_
  intro p e s m args below meth c s₁ Bd hml0 hP hK
  obtain ⟨rfl, hZ, hh⟩ := hP
  have hx := Bd.exec
  have hby := Bd.bytes
  have hml : c.maxLocals = 2 := hml0
  have hown : s.vm.findClass "java/lang/StringUTF16" = some m.cls := findClass_of_methodNamed Bd.named
  have hnm := (name_of_methodNamed Bd.named Bd.method).1
  have X0 : Stand p l e ({ frames := 0, cells := 0, slots := 0, locals := 0 } : Room) s m #[(.ref u0), (.int (1 : Int32))] below meth c s₁ [] 0 0 := Stand.of_body Bd
  have e0 : s₁.heap = h0 := by rw [← hh, Bd.state]; rfl
  have N0 := Fr.nil n0
  have pre0 : ∀ t, Steps p.tables e below (s₁.setTop (mkF m 0 #[rv u0, iv (1 : Int32)] [])) t → Steps p.tables e below (s₁.setTop (entryFrame m #[(.ref u0), (.int (1 : Int32))] 2)) t := fun t k => castTop (ef_rmCF1_2 m u0 (1 : Int32)) k
  obtain ⟨cl1, Ar1, qq1, S1, N1_, H1, G1⟩ := id P_G_u0
  obtain ⟨fs, hr, hrun, hended, hW, hsame⟩ := X0.leave (v := some (.int (1 : Int32))) (fun h => by rw [Bd.returns] at h; cases h)
  refine ⟨_, _, pre0 _ ?_, hrun, hended, _, _, rfl, ?_, ⟨_, rfl⟩, hW, hsame.mono (by decide) (by decide)⟩
  · refine XS.iloadN X0.here hx rfl (hb hby d12_0) rfl ?_
    refine XS.aloadN X0.here hx rfl (hb hby d12_1) rfl rfl ?_
    refine X0.arraylength hx (by rw [e0]; exact Ar1.1) (State.isArrayOf_alike hZ.alike Ar1.2.1) (g := (mkF m 2 #[rv u0, iv (1 : Int32)] [(.ref u0), (.int (1 : Int32))])) rfl rfl (hb hby d12_2) _ ?_
    rw [len_of S1 N1_]
    refine XS.isub X0.here hx rfl (hb hby d12_3) rfl ?_
    refine XS.bipush X0.here hx rfl (hb hby d12_4) ?_
    refine XS.iushr X0.here hx rfl (hb hby d12_6) rfl ?_
    show Steps _ _ _ (s₁.setTop (mkF m 7 #[rv u0, iv (1 : Int32)] [(.int (((-1 : Int32).toUInt32 >>> ((31 : Int32) &&& 31).toUInt32).toInt32))])) _
    rw [(by decide : (((-1 : Int32).toUInt32 >>> ((31 : Int32) &&& 31).toUInt32).toInt32) = (1 : Int32))]
    refine XS.i2b X0.here hx rfl (hb hby d12_7) rfl ?_
    show Steps _ _ _ (s₁.setTop (mkF m 8 #[rv u0, iv (1 : Int32)] [(.int ((1 : Int32).toInt8.toInt32))])) _
    rw [(by decide : ((1 : Int32).toInt8.toInt32) = (1 : Int32))]
    show Steps _ _ _ (s₁.setTop (mkF m 8 #[rv u0, iv (1 : Int32)] [(.int (1 : Int32))])) _
    exact retN X0 hx (t := .byte) Bd.returns (by simp) (hb hby d12_8) hr
  · show own_QP (some (.int (1 : Int32))) h0 n0 _ s₁.heap _
    rw [e0]
    exact ⟨rfl, N0, rfl⟩

theorem ef_rmI4_1 (m : MethodId) (x0 : Addr) (x1 : Addr) (x2 : Int32) (x3 : Int32) : entryFrame m #[(.ref x0), (.ref x1), (.int x2), (.int x3), .null] 6 = mkF m 0 #[rv x0, rv x1, iv x2, iv x3, .val .null, .unset] [] := by first | (simp [entryFrame, mkF, argsToLocals, Value.category]; done) | rfl
def Q_rmI4_1 (Z : State) (u0 : Addr) (u1 : Addr) (kA : ClassId) (c0 : Int32) (zC : Int32) (h0 : Heap) (n0 : Nat) (v : Option Value) (h : Heap) (L : List Loc) : Prop := ∃ (t : Addr), ∃ (kt : ClassId), ∃ (z : Int32), ∃ (vs : List Value), ∃ (cd : Int32), (v = none ∧ Fr n0 L ∧ Keep h0 h [u0] ∧ h0.size ≤ t ∧ Exa Z h u0 "java/lang/String" ∧ Fld Z h u0 "java/lang/String" "value" "[B" (.ref t) ∧ Fld Z h u0 "java/lang/String" "coder" "B" (.int cd) ∧ Arv Z h t kt .byte z vs (.int 0) ∧ (z >>> (cd &&& 31)) = (1 : Int32) ∧ (cd = 0 ∨ cd = 1))
set_option maxRecDepth 65536 in
set_option maxHeartbeats 40000000 in
theorem rmI4_1 (l : Launch) (Z : State) (a0 : Array Value) (hw : ∀ d ∈ tables_1, d.before a0 Z = true) (ws : List Jvm.Cond) (u0 : Addr) (u1 : Addr) (kA : ClassId) (c0 : Int32) (zC : Int32) (h0 : Heap) (n0 : Nat) (Z0 : n0 ≤ h0.size) (P_E_u0 : Exa Z h0 u0 "java/lang/String") (P_F_u0_String_value : Fld Z h0 u0 "java/lang/String" "value" "[B" .null) (P_F_u0_String_coder : Fld Z h0 u0 "java/lang/String" "coder" "B" (.int (0 : Int32))) (P_V_u1 : Arv Z h0 u1 kA .char (1 : Int32) [(.int c0)] (.int (0 : Int32))) (neA : u0 ≠ u1) (hr0 : ¬ c0 < 0 ∧ ¬ (65535 : Int32) < c0) (P_S_StringUTF16__assertionsDisabled : Sta Z h0 "java/lang/StringUTF16" "$assertionsDisabled" "Z" (.int (1 : Int32))) (P_S_StringUTF16_HI_BYTE_SHIFT : Sta Z h0 "java/lang/StringUTF16" "HI_BYTE_SHIFT" "I" (.int (0 : Int32))) (P_S_StringUTF16_LO_BYTE_SHIFT : Sta Z h0 "java/lang/StringUTF16" "LO_BYTE_SHIFT" "I" (.int (8 : Int32))) (P_S_String_COMPACT_STRINGS : Sta Z h0 "java/lang/String" "COMPACT_STRINGS" "Z" (.int zC)) (hz : ¬ (zC = (0 : Int32))) (g_u0 : n0 ≤ u0) :
    MetFree l own_y8 (head1 (Jvm.Cond.code own_y8 jdk_42_method_149_code 6 none :: ws) ({ frames := 4, cells := 2, slots := 3, locals := 57 } : Room)) (fun a U => a = #[(.ref u0), (.ref u1), (.int (0 : Int32)), (.int (1 : Int32)), .null] ∧ Z.Warmed39 U.vm ∧ U.heap = h0) (fun _ _ _ _ _ => True) (fun _ U o U' => ∃ v L, o = .returned v ∧ Q_rmI4_1 Z u0 u1 kA c0 zC h0 n0 v U'.heap L ∧ FrameEnd U o U' L ({ frames := 4, cells := 2, slots := 3, locals := 57 } : Room).cells ({ frames := 4, cells := 2, slots := 3, locals := 57 } : Room).slots) := by
  refine MetFree.of_bodySF (plainFor_of_name pn_3) hisR ?_
  intro p e s m args below meth c s₁ Bd hml0 hP hK
  obtain ⟨rfl, hZ, hh⟩ := hP
  have hx := Bd.exec
  have hby := Bd.bytes
  have hml : c.maxLocals = 6 := hml0
  have hown : s.vm.findClass "java/lang/String" = some m.cls := findClass_of_methodNamed Bd.named
  have hnm := (name_of_methodNamed Bd.named Bd.method).1
  have X0 : Stand p l e ({ frames := 4, cells := 2, slots := 3, locals := 57 } : Room) s m #[(.ref u0), (.ref u1), (.int (0 : Int32)), (.int (1 : Int32)), .null] below meth c s₁ [] 0 0 := Stand.of_body Bd
  have e0 : s₁.heap = h0 := by rw [← hh, Bd.state]; rfl
  have N0 := Fr.nil n0
  have pre0 : ∀ t, Steps p.tables e below (s₁.setTop (mkF m 0 #[rv u0, rv u1, iv (0 : Int32), iv (1 : Int32), .val .null, .unset] [])) t → Steps p.tables e below (s₁.setTop (entryFrame m #[(.ref u0), (.ref u1), (.int (0 : Int32)), (.int (1 : Int32)), .null] 6)) t := fun t k => castTop (ef_rmI4_1 m u0 u1 (0 : Int32) (1 : Int32)) k
  obtain ⟨T1, X1, e1, st1⟩ := initO X0 hx hZ hown (own_g hw 17 rfl) (own_g hw 18 rfl) (own_g hw 19 rfl) e0 (g := (mkF m 1 #[rv u0, rv u1, iv (0 : Int32), iv (1 : Int32), .val .null, .unset] [(.ref u0)])) rfl (by rw [hml]; rfl) rfl (hb hby d3_1) (by decide) (W := 0) (by show 2 * 0 + _ ≤ _; exact Nat.le_of_eq rfl) (by decide)
  obtain ⟨T2, X2, e2, st2⟩ := getS2 X1 hx hZ hown (host := "") (Or.inl (own_g hw 20 rfl)) Via.refl e1 P_S_String_COMPACT_STRINGS (g := (mkF m 27 #[rv u0, rv u1, iv (0 : Int32), iv (1 : Int32), .val .null, .unset] [])) rfl (hb hby d3_27)
  obtain ⟨_, _, ⟨T3, L3, k3, n3⟩, -, X3, ⟨Lc3, hQ3, l3, y3, z3⟩, st3⟩ := Jvm.LawKit.callS X2 hx (y := own_y6) hown (mvT hZ (own_g hw 21 rfl)) (mvT hZ (own_g hw 22 rfl)) (mvT hZ (own_g hw 23 rfl)) (mvT hZ (own_g hw 24 rfl)) (by decide) (backOf (W := 0) (rmC3_1 l Z a0 hw [] u1 kA c0 h0 n0 Z0 P_S_StringUTF16__assertionsDisabled P_S_StringUTF16_HI_BYTE_SHIFT P_S_StringUTF16_LO_BYTE_SHIFT P_V_u1 hr0) hZ (own_g hw 24 rfl) (own_g hw 23 rfl) (by decide) (by decide)) (g := (mkF m 36 #[rv u0, rv u1, iv (0 : Int32), iv (1 : Int32), .val .null, .unset] [(.int (1 : Int32)), (.int (0 : Int32)), (.ref u1)])) rfl (by rw [hml]; rfl) (argsL := [(.ref u1), (.int (0 : Int32)), (.int (1 : Int32))]) (rest := []) (lenOf pd___CII__B rfl) rfl (by show 2 * 0 + _ ≤ _; exact Nat.le_of_eq rfl) (hb hby d3_36) (fun _ _ => ⟨rfl, e2, (by decide : 0 + 2 ≤ _), (by decide : 0 + 3 ≤ _)⟩)
  dsimp only [Pt.U, Pt.locs, Pt.cells, Pt.slots] at X3 l3 y3 z3 st3 hQ3
  subst l3 y3 z3
  obtain ⟨t_3, kt_3, z_3, vs_3, rfl, N3q, K3, sx3_0, f4, f5⟩ := hQ3
  have ot_3 : n0 ≤ t_3 := Nat.le_trans Z0 sx3_0
  have zt_3 : h0.size ≤ t_3 := Nat.le_trans (Keep.refl h0 [u0]).1 sx3_0
  have ne6 : u0 ≠ t_3 := Nat.ne_of_lt (Nat.lt_of_lt_of_le P_E_u0.lt sx3_0)
  have ne7 : u1 ≠ t_3 := Nat.ne_of_lt (Nat.lt_of_lt_of_le P_V_u1.lt sx3_0)
  have KK3 : Keep h0 T3.heap [u0] := Keep.trans (Keep.refl h0 [u0]) K3 all0
  have N3 := Fr.app N0 N3q
  have pre8 : ∀ t, Steps p.tables e below (T3.setTop (mkF m 39 #[rv u0, rv u1, iv (0 : Int32), iv (1 : Int32), .val .null, .unset] [(.ref t_3)])) t → Steps p.tables e below (s₁.setTop (entryFrame m #[(.ref u0), (.ref u1), (.int (0 : Int32)), (.int (1 : Int32)), .null] 6)) t := fun t kt => pre0 t (by
   refine XS.aloadN X0.here hx rfl (hb hby d3_0) rfl rfl ?_
   show Steps _ _ _ (s₁.setTop (mkF m 1 #[rv u0, rv u1, iv (0 : Int32), iv (1 : Int32), .val .null, .unset] [(.ref u0)])) _
   refine st1 _ ?_
   refine XS.iloadN X1.here hx rfl (hb hby d3_4) rfl ?_
   refine XS.ifYes X1.here hx rfl (pc0 := 5) (pc' := 27) rfl (hb hby d3_5) rfl ((if0 _ _).trans (feq (by decide : ¬ ((1 : Int32) = (0 : Int32)))).2) (by decide) (by decide) ?_
   refine st2 _ ?_
   refine XS.ifNo X2.here hx rfl (hb hby d3_30) rfl ((if0 _ _).trans (feq hz).1) ?_
   refine XS.aloadN X2.here hx rfl (hb hby d3_33) rfl rfl ?_
   refine XS.iloadN X2.here hx rfl (hb hby d3_34) rfl ?_
   refine XS.iloadN X2.here hx rfl (hb hby d3_35) rfl ?_
   show Steps _ _ _ (T2.setTop (mkF m 36 #[rv u0, rv u1, iv (0 : Int32), iv (1 : Int32), .val .null, .unset] [(.int (1 : Int32)), (.int (0 : Int32)), (.ref u1)])) _
   refine st3 _ ?_
   exact kt)
  rcases f5 with hd_ | hd_
  · subst hd_
    have f9 : n0 ≤ T3.heap.size := (Nat.le_trans Z0 K3.1)
    obtain ⟨_, _, ⟨T10, L10, k10, n10⟩, -, X10, ⟨Lc10, hQ10, l10, y10, z10⟩, st10⟩ := Jvm.LawKit.callS X3 hx (y := own_y7) hown (mvT hZ (own_g hw 48 rfl)) (mvT hZ (own_g hw 49 rfl)) (mvT hZ (own_g hw 23 rfl)) (mvT hZ (own_g hw 50 rfl)) (by decide) (backOf (W := 1) (rmCF1_1 l Z a0 hw [] t_3 kt_3 vs_3 T3.heap n0 f9 f4) hZ (own_g hw 50 rfl) (own_g hw 23 rfl) (by decide) (by decide)) (g := (mkF m 45 #[rv u0, rv u1, iv (0 : Int32), iv (1 : Int32), .val .null, rv t_3] [(.int (1 : Int32)), (.ref t_3), (.ref u0)])) rfl (by rw [hml]; rfl) (argsL := [(.ref t_3), (.int (1 : Int32))]) (rest := [(.ref u0)]) (lenOf pd___BI_B rfl) rfl (by show 2 * 0 + _ ≤ _; exact Nat.le_of_eq rfl) (hb hby d3_45) (fun _ _ => ⟨rfl, rfl, (by decide : 2 + 0 ≤ _), (by decide : 3 + 0 ≤ _)⟩)
    dsimp only [Pt.U, Pt.locs, Pt.cells, Pt.slots] at X10 l10 y10 z10 st10 hQ10
    subst l10 y10 z10
    obtain ⟨rfl, N10q, e10⟩ := hQ10
    have N10 := Fr.app N3 N10q
    have f11 : Exa Z T3.heap u0 "java/lang/String" := (P_E_u0.keep K3)
    have f12 : Fld Z T3.heap u0 "java/lang/String" "coder" "B" (.int (0 : Int32)) := (P_F_u0_String_coder.keep K3 nin0)
    obtain ⟨T13, h13, X13, e13, W13, st13⟩ := putFN X10 hx hZ hown (own_g hw 51 rfl) Via.refl e10 f12 f11 (Or.inr ⟨(own_g hw 52 rfl), rfl, hnm⟩) (own_g hw 7 rfl) (ty := .byte) (v' := (.int (0 : Int32))) (by decide) rfl rfl (g := (mkF m 48 #[rv u0, rv u1, iv (0 : Int32), iv (1 : Int32), .val .null, rv t_3] [(.int (0 : Int32)), (.ref u0)])) rfl rfl (hb hby d3_48)
    have f13_ : Fld Z h13 u0 "java/lang/String" "coder" "B" (.int (0 : Int32)) := f12.same W13
    have N14 := Fr.snoc X13 N10 g_u0
    have K15 : Keep h0 h13 [u0] := KK3.wr W13 (Or.inl (List.mem_of_getElem? (i := 0) rfl))
    have f16 : Exa Z h13 u0 "java/lang/String" := (f11.wr W13)
    have f17 : Fld Z h13 u0 "java/lang/String" "value" "[B" .null := ((P_F_u0_String_value.keep K3 nin0).other W13 (Or.inr (slot_ne (Or.inr (own_g hw 54 rfl)) (Or.inr (own_g hw 52 rfl)) (by decide) (t := (.array .byte)) (t' := .byte) (by decide) (by decide))))
    obtain ⟨T18, h18, X18, e18, W18, st18⟩ := putF X13 hx hZ hown (host := "") (Or.inl (own_g hw 53 rfl)) Via.refl e13 f17 f16 (Or.inr ⟨(own_g hw 54 rfl), rfl, hnm⟩) (own_g hw 7 rfl) (ty := (.array .byte)) (by decide) rfl rfl (g := (mkF m 54 #[rv u0, rv u1, iv (0 : Int32), iv (1 : Int32), .val .null, rv t_3] [(.ref t_3), (.ref u0)])) rfl rfl (hb hby d3_54)
    have f18_ : Fld Z h18 u0 "java/lang/String" "value" "[B" (.ref t_3) := f17.same W18
    have N19 := Fr.snoc X18 N14 g_u0
    have K20 : Keep h0 h18 [u0] := K15.wr W18 (Or.inl (List.mem_of_getElem? (i := 0) rfl))
    obtain ⟨fs, hr, hrun, hended, hW, hsame⟩ := X18.leave (v := none) (fun _ => rfl)
    have f21 : Exa Z h18 u0 "java/lang/String" := (f16.wr W18)
    have f22 : Fld Z h18 u0 "java/lang/String" "coder" "B" (.int (0 : Int32)) := (f13_.other W18 (Or.inr (slot_ne (Or.inr (own_g hw 52 rfl)) (Or.inr (own_g hw 54 rfl)) (by decide) (t := .byte) (t' := (.array .byte)) (by decide) (by decide))))
    have f23 : Arv Z h18 t_3 kt_3 .byte (1 : Int32) vs_3 (.int 0) := ((f4.other W13 (Ne.symm ne6)).other W18 (Ne.symm ne6))
    refine ⟨_, _, pre8 _ ?_, hrun, hended, _, _, rfl, ?_, ⟨_, rfl⟩, hW, hsame.mono (by decide) (by decide)⟩
    · refine XS.astore X3.here hx rfl (hb hby d3_39) rfl rfl (l' := #[rv u0, rv u1, iv (0 : Int32), iv (1 : Int32), .val .null, rv t_3]) rfl ?_
      refine XS.aloadN X3.here hx rfl (hb hby d3_41) rfl rfl ?_
      refine XS.aload X3.here hx rfl (hb hby d3_42) rfl rfl ?_
      refine XS.iloadN X3.here hx rfl (hb hby d3_44) rfl ?_
      show Steps _ _ _ (T3.setTop (mkF m 45 #[rv u0, rv u1, iv (0 : Int32), iv (1 : Int32), .val .null, rv t_3] [(.int (1 : Int32)), (.ref t_3), (.ref u0)])) _
      refine st10 _ ?_
      refine st13 _ ?_
      refine XS.aloadN X13.here hx rfl (hb hby d3_51) rfl rfl ?_
      refine XS.aload X13.here hx rfl (hb hby d3_52) rfl rfl ?_
      refine st18 _ ?_
      show Steps _ _ _ (T18.setTop (mkF m 57 #[rv u0, rv u1, iv (0 : Int32), iv (1 : Int32), .val .null, rv t_3] [])) _
      exact X18.returnOut hx Bd.returns (hb hby d3_57) hr
    · show Q_rmI4_1 Z u0 u1 kA c0 zC h0 n0 _ T18.heap _
      rw [e18]
      exact ⟨t_3, kt_3, (1 : Int32), vs_3, (0 : Int32), rfl, N19, K20, zt_3, f21, f18_, f22, f23, (by decide), (by decide)⟩
  · subst hd_
    have f24 : n0 ≤ T3.heap.size := (Nat.le_trans Z0 K3.1)
    obtain ⟨_, _, ⟨T25, L25, k25, n25⟩, -, X25, ⟨Lc25, hQ25, l25, y25, z25⟩, st25⟩ := Jvm.LawKit.callS X3 hx (y := own_y7) hown (mvT hZ (own_g hw 48 rfl)) (mvT hZ (own_g hw 49 rfl)) (mvT hZ (own_g hw 23 rfl)) (mvT hZ (own_g hw 50 rfl)) (by decide) (backOf (W := 1) (rmCF1_2 l Z a0 hw [] t_3 kt_3 vs_3 T3.heap n0 f24 f4) hZ (own_g hw 50 rfl) (own_g hw 23 rfl) (by decide) (by decide)) (g := (mkF m 45 #[rv u0, rv u1, iv (0 : Int32), iv (1 : Int32), .val .null, rv t_3] [(.int (1 : Int32)), (.ref t_3), (.ref u0)])) rfl (by rw [hml]; rfl) (argsL := [(.ref t_3), (.int (1 : Int32))]) (rest := [(.ref u0)]) (lenOf pd___BI_B rfl) rfl (by show 2 * 0 + _ ≤ _; exact Nat.le_of_eq rfl) (hb hby d3_45) (fun _ _ => ⟨rfl, rfl, (by decide : 2 + 0 ≤ _), (by decide : 3 + 0 ≤ _)⟩)
    dsimp only [Pt.U, Pt.locs, Pt.cells, Pt.slots] at X25 l25 y25 z25 st25 hQ25
    subst l25 y25 z25
    obtain ⟨rfl, N25q, e25⟩ := hQ25
    have N25 := Fr.app N3 N25q
    have f26 : Exa Z T3.heap u0 "java/lang/String" := (P_E_u0.keep K3)
    have f27 : Fld Z T3.heap u0 "java/lang/String" "coder" "B" (.int (0 : Int32)) := (P_F_u0_String_coder.keep K3 nin0)
    obtain ⟨T28, h28, X28, e28, W28, st28⟩ := putFN X25 hx hZ hown (own_g hw 51 rfl) Via.refl e25 f27 f26 (Or.inr ⟨(own_g hw 52 rfl), rfl, hnm⟩) (own_g hw 7 rfl) (ty := .byte) (v' := (.int (1 : Int32))) (by decide) rfl rfl (g := (mkF m 48 #[rv u0, rv u1, iv (0 : Int32), iv (1 : Int32), .val .null, rv t_3] [(.int (1 : Int32)), (.ref u0)])) rfl rfl (hb hby d3_48)
    have f28_ : Fld Z h28 u0 "java/lang/String" "coder" "B" (.int (1 : Int32)) := f27.same W28
    have N29 := Fr.snoc X28 N25 g_u0
    have K30 : Keep h0 h28 [u0] := KK3.wr W28 (Or.inl (List.mem_of_getElem? (i := 0) rfl))
    have f31 : Exa Z h28 u0 "java/lang/String" := (f26.wr W28)
    have f32 : Fld Z h28 u0 "java/lang/String" "value" "[B" .null := ((P_F_u0_String_value.keep K3 nin0).other W28 (Or.inr (slot_ne (Or.inr (own_g hw 54 rfl)) (Or.inr (own_g hw 52 rfl)) (by decide) (t := (.array .byte)) (t' := .byte) (by decide) (by decide))))
    obtain ⟨T33, h33, X33, e33, W33, st33⟩ := putF X28 hx hZ hown (host := "") (Or.inl (own_g hw 53 rfl)) Via.refl e28 f32 f31 (Or.inr ⟨(own_g hw 54 rfl), rfl, hnm⟩) (own_g hw 7 rfl) (ty := (.array .byte)) (by decide) rfl rfl (g := (mkF m 54 #[rv u0, rv u1, iv (0 : Int32), iv (1 : Int32), .val .null, rv t_3] [(.ref t_3), (.ref u0)])) rfl rfl (hb hby d3_54)
    have f33_ : Fld Z h33 u0 "java/lang/String" "value" "[B" (.ref t_3) := f32.same W33
    have N34 := Fr.snoc X33 N29 g_u0
    have K35 : Keep h0 h33 [u0] := K30.wr W33 (Or.inl (List.mem_of_getElem? (i := 0) rfl))
    obtain ⟨fs, hr, hrun, hended, hW, hsame⟩ := X33.leave (v := none) (fun _ => rfl)
    have f36 : Exa Z h33 u0 "java/lang/String" := (f31.wr W33)
    have f37 : Fld Z h33 u0 "java/lang/String" "coder" "B" (.int (1 : Int32)) := (f28_.other W33 (Or.inr (slot_ne (Or.inr (own_g hw 52 rfl)) (Or.inr (own_g hw 54 rfl)) (by decide) (t := .byte) (t' := (.array .byte)) (by decide) (by decide))))
    have f38 : Arv Z h33 t_3 kt_3 .byte (2 : Int32) vs_3 (.int 0) := ((f4.other W28 (Ne.symm ne6)).other W33 (Ne.symm ne6))
    refine ⟨_, _, pre8 _ ?_, hrun, hended, _, _, rfl, ?_, ⟨_, rfl⟩, hW, hsame.mono (by decide) (by decide)⟩
    · refine XS.astore X3.here hx rfl (hb hby d3_39) rfl rfl (l' := #[rv u0, rv u1, iv (0 : Int32), iv (1 : Int32), .val .null, rv t_3]) rfl ?_
      refine XS.aloadN X3.here hx rfl (hb hby d3_41) rfl rfl ?_
      refine XS.aload X3.here hx rfl (hb hby d3_42) rfl rfl ?_
      refine XS.iloadN X3.here hx rfl (hb hby d3_44) rfl ?_
      show Steps _ _ _ (T3.setTop (mkF m 45 #[rv u0, rv u1, iv (0 : Int32), iv (1 : Int32), .val .null, rv t_3] [(.int (1 : Int32)), (.ref t_3), (.ref u0)])) _
      refine st25 _ ?_
      refine st28 _ ?_
      refine XS.aloadN X28.here hx rfl (hb hby d3_51) rfl rfl ?_
      refine XS.aload X28.here hx rfl (hb hby d3_52) rfl rfl ?_
      show Steps _ _ _ (T28.setTop (mkF m 54 #[rv u0, rv u1, iv (0 : Int32), iv (1 : Int32), .val .null, rv t_3] [(.ref t_3), (.ref u0)])) _
      refine st33 _ ?_
      show Steps _ _ _ (T33.setTop (mkF m 57 #[rv u0, rv u1, iv (0 : Int32), iv (1 : Int32), .val .null, rv t_3] [])) _
      exact X33.returnOut hx Bd.returns (hb hby d3_57) hr
    · show Q_rmI4_1 Z u0 u1 kA c0 zC h0 n0 _ T33.heap _
      rw [e33]
      exact ⟨t_3, kt_3, (2 : Int32), vs_3, (1 : Int32), rfl, N34, K35, zt_3, f36, f33_, f37, f38, (by decide), (by decide)⟩

theorem ef_rmI1_1 (m : MethodId) (x0 : Addr) (x1 : Addr) : entryFrame m #[(.ref x0), (.ref x1)] 2 = mkF m 0 #[rv x0, rv x1] [] := by first | (simp [entryFrame, mkF, argsToLocals, Value.category]; done) | rfl
def Q_rmI1_1 (Z : State) (u0 : Addr) (u1 : Addr) (kA : ClassId) (c0 : Int32) (zC : Int32) (h0 : Heap) (n0 : Nat) (v : Option Value) (h : Heap) (L : List Loc) : Prop := ∃ (t : Addr), ∃ (kt : ClassId), ∃ (z : Int32), ∃ (vs : List Value), ∃ (cd : Int32), (v = none ∧ Fr n0 L ∧ Keep h0 h [u0] ∧ h0.size ≤ t ∧ Exa Z h u0 "java/lang/String" ∧ Fld Z h u0 "java/lang/String" "value" "[B" (.ref t) ∧ Fld Z h u0 "java/lang/String" "coder" "B" (.int cd) ∧ Arv Z h t kt .byte z vs (.int 0) ∧ (z >>> (cd &&& 31)) = (1 : Int32) ∧ (cd = 0 ∨ cd = 1))
set_option maxRecDepth 65536 in
set_option maxHeartbeats 40000000 in
theorem rmI1_1 (l : Launch) (Z : State) (a0 : Array Value) (hw : ∀ d ∈ tables_1, d.before a0 Z = true) (ws : List Jvm.Cond) (u0 : Addr) (u1 : Addr) (kA : ClassId) (c0 : Int32) (zC : Int32) (h0 : Heap) (n0 : Nat) (Z0 : n0 ≤ h0.size) (P_E_u0 : Exa Z h0 u0 "java/lang/String") (P_F_u0_String_value : Fld Z h0 u0 "java/lang/String" "value" "[B" .null) (P_F_u0_String_coder : Fld Z h0 u0 "java/lang/String" "coder" "B" (.int (0 : Int32))) (P_V_u1 : Arv Z h0 u1 kA .char (1 : Int32) [(.int c0)] (.int (0 : Int32))) (neA : u0 ≠ u1) (hr0 : ¬ c0 < 0 ∧ ¬ (65535 : Int32) < c0) (P_S_StringUTF16__assertionsDisabled : Sta Z h0 "java/lang/StringUTF16" "$assertionsDisabled" "Z" (.int (1 : Int32))) (P_S_StringUTF16_HI_BYTE_SHIFT : Sta Z h0 "java/lang/StringUTF16" "HI_BYTE_SHIFT" "I" (.int (0 : Int32))) (P_S_StringUTF16_LO_BYTE_SHIFT : Sta Z h0 "java/lang/StringUTF16" "LO_BYTE_SHIFT" "I" (.int (8 : Int32))) (P_S_String_COMPACT_STRINGS : Sta Z h0 "java/lang/String" "COMPACT_STRINGS" "Z" (.int zC)) (hz : ¬ (zC = (0 : Int32))) (g_u0 : n0 ≤ u0) :
    MetFree l own_y9 (head1 (Jvm.Cond.code own_y9 jdk_42_method_3_code 2 none :: ws) ({ frames := 5, cells := 2, slots := 3, locals := 74 } : Room)) (fun a U => a = #[(.ref u0), (.ref u1)] ∧ Z.Warmed39 U.vm ∧ U.heap = h0) (fun _ _ _ _ _ => True) (fun _ U o U' => ∃ v L, o = .returned v ∧ Q_rmI1_1 Z u0 u1 kA c0 zC h0 n0 v U'.heap L ∧ FrameEnd U o U' L ({ frames := 5, cells := 2, slots := 3, locals := 74 } : Room).cells ({ frames := 5, cells := 2, slots := 3, locals := 74 } : Room).slots) := by
  refine MetFree.of_bodySF (plainFor_of_name pn_2) hisR ?_
  intro p e s m args below meth c s₁ Bd hml0 hP hK
  obtain ⟨rfl, hZ, hh⟩ := hP
  have hx := Bd.exec
  have hby := Bd.bytes
  have hml : c.maxLocals = 2 := hml0
  have hown : s.vm.findClass "java/lang/String" = some m.cls := findClass_of_methodNamed Bd.named
  have hnm := (name_of_methodNamed Bd.named Bd.method).1
  have X0 : Stand p l e ({ frames := 5, cells := 2, slots := 3, locals := 74 } : Room) s m #[(.ref u0), (.ref u1)] below meth c s₁ [] 0 0 := Stand.of_body Bd
  have e0 : s₁.heap = h0 := by rw [← hh, Bd.state]; rfl
  have N0 := Fr.nil n0
  have pre0 : ∀ t, Steps p.tables e below (s₁.setTop (mkF m 0 #[rv u0, rv u1] [])) t → Steps p.tables e below (s₁.setTop (entryFrame m #[(.ref u0), (.ref u1)] 2)) t := fun t k => castTop (ef_rmI1_1 m u0 u1) k
  obtain ⟨cl1, Ar1, qq1, S1, N1_, H1, G1⟩ := id P_V_u1
  obtain ⟨_, _, ⟨T2, L2, k2, n2⟩, -, X2, ⟨Lc2, hQ2, l2, y2, z2⟩, st2⟩ := X0.specialBack hx (y := own_y8) rfl hown (mvT hZ (own_g hw 13 rfl)) (mvT hZ (own_g hw 14 rfl)) (mvT hZ (own_g hw 16 rfl)) (by decide) (backOf (W := 0) (rmI4_1 l Z a0 hw [] u0 u1 kA c0 zC h0 n0 Z0 P_E_u0 P_F_u0_String_value P_F_u0_String_coder P_V_u1 neA hr0 P_S_StringUTF16__assertionsDisabled P_S_StringUTF16_HI_BYTE_SHIFT P_S_StringUTF16_LO_BYTE_SHIFT P_S_String_COMPACT_STRINGS hz g_u0) hZ (own_g hw 16 rfl) (own_g hw 8 rfl) (by decide) (by decide)) (g := (mkF m 6 #[rv u0, rv u1] [.null, (.int (1 : Int32)), (.int (0 : Int32)), (.ref u1), (.ref u0)])) rfl (by rw [hml]; rfl) (Steps.refl _) (a := u0) (argsL := [(.ref u1), (.int (0 : Int32)), (.int (1 : Int32)), .null]) (rest := []) (lenOf pd___CIILjava_lang_Void__V rfl) rfl (by show 2 * 0 + _ ≤ _; exact Nat.le_of_eq rfl) (hb hby d2_6) (fun _ _ => ⟨rfl, e0, (by decide : 0 + 2 ≤ _), (by decide : 0 + 3 ≤ _)⟩)
  dsimp only [Pt.U, Pt.locs, Pt.cells, Pt.slots] at X2 l2 y2 z2 st2 hQ2
  subst l2 y2 z2
  obtain ⟨t_2, kt_2, z_2, vs_2, cd_2, rfl, N2q, K2, sx2_0, f3, f4, f5, f6, f7, f8⟩ := hQ2
  have ot_2 : n0 ≤ t_2 := Nat.le_trans Z0 sx2_0
  have zt_2 : h0.size ≤ t_2 := Nat.le_trans (Keep.refl h0 [u0]).1 sx2_0
  have ne9 : u0 ≠ t_2 := Nat.ne_of_lt (Nat.lt_of_lt_of_le P_E_u0.lt sx2_0)
  have ne10 : u1 ≠ t_2 := Nat.ne_of_lt (Nat.lt_of_lt_of_le P_V_u1.lt sx2_0)
  have KK2 : Keep h0 T2.heap [u0] := Keep.trans (Keep.refl h0 [u0]) K2 (allS (Or.inl (List.mem_of_getElem? (i := 0) rfl)) all0)
  have N2 := Fr.app N0 N2q
  obtain ⟨fs, hr, hrun, hended, hW, hsame⟩ := X2.leave (v := none) (fun _ => rfl)
  refine ⟨_, _, pre0 _ ?_, hrun, hended, _, _, rfl, ?_, ⟨_, rfl⟩, hW, hsame.mono (by decide) (by decide)⟩
  · refine XS.aloadN X0.here hx rfl (hb hby d2_0) rfl rfl ?_
    refine XS.aloadN X0.here hx rfl (hb hby d2_1) rfl rfl ?_
    refine XS.iconst X0.here hx rfl (hb hby d2_2) ?_
    refine XS.aloadN X0.here hx rfl (hb hby d2_3) rfl rfl ?_
    refine X0.arraylength hx (by rw [e0]; exact Ar1.1) (State.isArrayOf_alike hZ.alike Ar1.2.1) (g := (mkF m 4 #[rv u0, rv u1] [(.ref u1), (.int (0 : Int32)), (.ref u1), (.ref u0)])) rfl rfl (hb hby d2_4) _ ?_
    rw [len_of S1 N1_]
    refine XS.aconstNull X0.here hx rfl (hb hby d2_5) ?_
    show Steps _ _ _ (s₁.setTop (mkF m 6 #[rv u0, rv u1] [.null, (.int (1 : Int32)), (.int (0 : Int32)), (.ref u1), (.ref u0)])) _
    refine st2.trans ?_
    show Steps _ _ _ (T2.setTop (mkF m 9 #[rv u0, rv u1] [])) _
    exact X2.returnOut hx Bd.returns (hb hby d2_9) hr
  · show Q_rmI1_1 Z u0 u1 kA c0 zC h0 n0 _ T2.heap _
    exact ⟨t_2, kt_2, z_2, vs_2, cd_2, rfl, N2, KK2, zt_2, f3, f4, f5, f6, f7, f8⟩

theorem ef_rmMk_1 (m : MethodId) (x0 : Int32) (x1 : Int32) (x2 : Int32) (x3 : Int32) (x4 : Int32) : entryFrame m #[(.int x0), (.int x1), (.int x2), (.int x3), (.int x4)] 5 = mkF m 0 #[iv x0, iv x1, iv x2, iv x3, iv x4] [] := by first | (simp [entryFrame, mkF, argsToLocals, Value.category]; done) | rfl
def Q_rmMk_1 (Z : State) (p1 : Int32) (p2 : Int32) (p3 : Int32) (p4 : Int32) (zC : Int32) (h0 : Heap) (n0 : Nat) (v : Option Value) (h : Heap) (L : List Loc) : Prop := ∃ (sg : Addr), ∃ (t : Addr), ∃ (kt : ClassId), ∃ (z : Int32), ∃ (vs : List Value), ∃ (cd : Int32), (v = (some (.ref sg)) ∧ Fr n0 L ∧ Keep h0 h [] ∧ h0.size ≤ sg ∧ h0.size ≤ t ∧ sg ≠ t ∧ Exa Z h sg "java/lang/String" ∧ Fld Z h sg "java/lang/String" "value" "[B" (.ref t) ∧ Fld Z h sg "java/lang/String" "coder" "B" (.int cd) ∧ Arv Z h t kt .byte z vs (.int 0) ∧ (z >>> (cd &&& 31)) = (1 : Int32) ∧ (cd = 0 ∨ cd = 1))
set_option maxRecDepth 65536 in
set_option maxHeartbeats 40000000 in
theorem rmMk_1 (l : Launch) (Z : State) (a0 : Array Value) (hw : ∀ d ∈ tables_1, d.before a0 Z = true) (ws : List Jvm.Cond) (p1 : Int32) (p2 : Int32) (p3 : Int32) (p4 : Int32) (zC : Int32) (h0 : Heap) (n0 : Nat) (Z0 : n0 ≤ h0.size) (P_S_StringUTF16__assertionsDisabled : Sta Z h0 "java/lang/StringUTF16" "$assertionsDisabled" "Z" (.int (1 : Int32))) (P_S_StringUTF16_HI_BYTE_SHIFT : Sta Z h0 "java/lang/StringUTF16" "HI_BYTE_SHIFT" "I" (.int (0 : Int32))) (P_S_StringUTF16_LO_BYTE_SHIFT : Sta Z h0 "java/lang/StringUTF16" "LO_BYTE_SHIFT" "I" (.int (8 : Int32))) (P_S_String_COMPACT_STRINGS : Sta Z h0 "java/lang/String" "COMPACT_STRINGS" "Z" (.int zC)) (hz : ¬ (zC = (0 : Int32))) :
    MetFree l own_y10 (head1 (Jvm.Cond.code own_y10 method_3_code 5 (some (.object "java/lang/String")) :: ws) ({ frames := 6, cells := 4, slots := 8, locals := 88 } : Room)) (fun a U => a = #[(.int (1 : Int32)), (.int p1), (.int p2), (.int p3), (.int p4)] ∧ Z.Warmed39 U.vm ∧ U.heap = h0) (fun _ _ _ _ _ => True) (fun _ U o U' => ∃ v L, o = .returned v ∧ Q_rmMk_1 Z p1 p2 p3 p4 zC h0 n0 v U'.heap L ∧ FrameEnd U o U' L ({ frames := 6, cells := 4, slots := 8, locals := 88 } : Room).cells ({ frames := 6, cells := 4, slots := 8, locals := 88 } : Room).slots) := by
  refine MetFree.of_bodySF (plainFor_of_name pn_1) hisR ?_
  intro p e s m args below meth c s₁ Bd hml0 hP hK
  obtain ⟨rfl, hZ, hh⟩ := hP
  have hx := Bd.exec
  have hby := Bd.bytes
  have hml : c.maxLocals = 5 := hml0
  have hown : s.vm.findClass "com/example/apq/apq/jpql/TokenEndPinLaw" = some m.cls := findClass_of_methodNamed Bd.named
  have hnm := (name_of_methodNamed Bd.named Bd.method).1
  have X0 : Stand p l e ({ frames := 6, cells := 4, slots := 8, locals := 88 } : Room) s m #[(.int (1 : Int32)), (.int p1), (.int p2), (.int p3), (.int p4)] below meth c s₁ [] 0 0 := Stand.of_body Bd
  have e0 : s₁.heap = h0 := by rw [← hh, Bd.state]; rfl
  have N0 := Fr.nil n0
  have pre0 : ∀ t, Steps p.tables e below (s₁.setTop (mkF m 0 #[iv (1 : Int32), iv p1, iv p2, iv p3, iv p4] [])) t → Steps p.tables e below (s₁.setTop (entryFrame m #[(.int (1 : Int32)), (.int p1), (.int p2), (.int p3), (.int p4)] 5)) t := fun t k => castTop (ef_rmMk_1 m (1 : Int32) p1 p2 p3 p4) k
  obtain ⟨T1, h1, X1, e1, E1, A1, D1, U1, st1⟩ := newO X0 hx hZ hown (own_g hw 6 rfl) (own_g hw 7 rfl) (own_g hw 8 rfl) e0 (g := (mkF m 20 #[iv (1 : Int32), iv p1, iv p2, iv p3, iv p4] [])) rfl (hb hby d1_20) (by decide) (by decide)
  obtain ⟨b1, g1⟩ : ∃ z, z = h0.size := ⟨_, rfl⟩
  rw [← g1] at A1 D1 U1 st1
  have o1 : n0 ≤ b1 := Nat.le_trans Z0 (Nat.le_of_eq g1.symm)
  have z1 : h0.size ≤ b1 := Nat.le_trans (Keep.refl h0 []).1 (Nat.le_of_eq g1.symm)
  have K1 : Keep h0 h1 [] := (Keep.refl h0 []).ext E1
  have f2 : Fld Z h1 b1 "java/lang/String" "coder" "B" (.int (0 : Int32)) := D1 (Or.inr (own_g hw 52 rfl)) (ty := .byte) (by decide)
  have f3 : Fld Z h1 b1 "java/lang/String" "value" "[B" .null := D1 (Or.inr (own_g hw 54 rfl)) (ty := (.array .byte)) (by decide)
  have f4 : n0 ≤ h1.size := (Nat.le_trans Z0 E1.1)
  obtain ⟨T5, h5, k5, X5, e5, E5, A5, st5⟩ := newP X1 hx hZ (own_g hw 9 rfl) e1 (g := (mkF m 25 #[iv (1 : Int32), iv p1, iv p2, iv p3, iv p4] [(.int (1 : Int32)), (.ref b1), (.ref b1)])) rfl (hb hby d1_25) rfl (by decide) (cap := 1) (by decide) (by decide) (by decide) (by decide)
  obtain ⟨b5, g5⟩ : ∃ z, z = h1.size := ⟨_, rfl⟩
  rw [← g5] at A5 st5
  have ne6 : b1 ≠ b5 := Nat.ne_of_lt (Nat.lt_of_lt_of_le A1.lt (Nat.le_of_eq g5.symm))
  have o5 : n0 ≤ b5 := Nat.le_trans f4 (Nat.le_of_eq g5.symm)
  have z5 : h0.size ≤ b5 := Nat.le_trans K1.1 (Nat.le_of_eq g5.symm)
  have K5 : Keep h0 h5 [] := K1.ext E5
  have V5 : Arv Z h5 b5 k5 .char (1 : Int32) [(.int (0 : Int32))] (.int (0 : Int32)) := (Arv.new A5 (by decide)).pad (pad_rep [] (.int (0 : Int32)) 1)
  obtain ⟨cl7, Ar7, qq7, S7, N7_, H7, G7⟩ := id V5
  have hin7 : ¬ ((0 : Int32) < 0 ∨ cl7.slots.size ≤ ((0 : Int32)).toNatClampNeg) := inb_of S7 ⟨by decide, by decide⟩
  obtain ⟨T8, h8, X8, e8, W8, st8⟩ := stC X5 hx hZ e5 Ar7 (j := (0 : Int32)) hin7 (g := (mkF m 30 #[iv (1 : Int32), iv p1, iv p2, iv p3, iv p4] [(.int p1), (.int (0 : Int32)), (.ref b5), (.ref b5), (.ref b1), (.ref b1)])) rfl rfl (hb hby d1_30)
  have V8 : Arv Z h8 b5 k5 .char (1 : Int32) [(.int (nar .char p1))] (.int (0 : Int32)) := Arv.set Ar7 qq7 S7 N7_ H7 G7 (fits_nar_char _) W8 0 rfl (Nat.le_of_ble_eq_true rfl)
  have N9 := Fr.snoc X8 N0 o5
  have K10 : Keep h0 h8 [] := K5.wr W8 (Or.inr z5)
  have f11 : Exa Z h8 b1 "java/lang/String" := ((A1.ext E5).wr W8)
  have f12 : Fld Z h8 b1 "java/lang/String" "value" "[B" .null := ((f3.ext E5).other W8 (Or.inl ne6))
  have f13 : Fld Z h8 b1 "java/lang/String" "coder" "B" (.int (0 : Int32)) := ((f2.ext E5).other W8 (Or.inl ne6))
  have f14 : Sta Z h8 "java/lang/StringUTF16" "$assertionsDisabled" "Z" (.int (1 : Int32)) := (((P_S_StringUTF16__assertionsDisabled.ext E1).ext E5).wr W8)
  have f15 : Sta Z h8 "java/lang/StringUTF16" "HI_BYTE_SHIFT" "I" (.int (0 : Int32)) := (((P_S_StringUTF16_HI_BYTE_SHIFT.ext E1).ext E5).wr W8)
  have f16 : Sta Z h8 "java/lang/StringUTF16" "LO_BYTE_SHIFT" "I" (.int (8 : Int32)) := (((P_S_StringUTF16_LO_BYTE_SHIFT.ext E1).ext E5).wr W8)
  have f17 : Sta Z h8 "java/lang/String" "COMPACT_STRINGS" "Z" (.int zC) := (((P_S_String_COMPACT_STRINGS.ext E1).ext E5).wr W8)
  have f18 : n0 ≤ h8.size := (Nat.le_trans (Nat.le_trans f4 E5.1) (Keep.of_wr W8).1)
  obtain ⟨_, _, ⟨T19, L19, k19, n19⟩, -, X19, ⟨Lc19, hQ19, l19, y19, z19⟩, st19⟩ := X8.specialBack hx (y := own_y9) rfl hown (mvT hZ (own_g hw 10 rfl)) (mvT hZ (own_g hw 11 rfl)) (mvT hZ (own_g hw 12 rfl)) (by decide) (backOf (W := 1) (rmI1_1 l Z a0 hw [] b1 b5 k5 (nar .char p1) zC h8 n0 f18 f11 f12 f13 V8 ne6 (own_nr p1) f14 f15 f16 f17 hz o1) hZ (own_g hw 12 rfl) (own_g hw 8 rfl) (by decide) (by decide)) (g := (mkF m 31 #[iv (1 : Int32), iv p1, iv p2, iv p3, iv p4] [(.ref b5), (.ref b1), (.ref b1)])) rfl (by rw [hml]; rfl) (Steps.refl _) (a := b1) (argsL := [(.ref b5)]) (rest := [(.ref b1)]) (lenOf pd___C_V rfl) rfl (by show 2 * 0 + _ ≤ _; exact Nat.le_of_eq rfl) (hb hby d1_31) (fun _ _ => ⟨rfl, e8, (by decide : 2 + 2 ≤ _), (by decide : 5 + 3 ≤ _)⟩)
  dsimp only [Pt.U, Pt.locs, Pt.cells, Pt.slots] at X19 l19 y19 z19 st19 hQ19
  subst l19 y19 z19
  obtain ⟨t_19, kt_19, z_19, vs_19, cd_19, rfl, N19q, K19, sx19_0, f20, f21, f22, f23, f24, f25⟩ := hQ19
  have ot_19 : n0 ≤ t_19 := Nat.le_trans f18 sx19_0
  have zt_19 : h0.size ≤ t_19 := Nat.le_trans K10.1 sx19_0
  have ne26 : b1 ≠ t_19 := Nat.ne_of_lt (Nat.lt_of_lt_of_le f11.lt sx19_0)
  have ne27 : b5 ≠ t_19 := Nat.ne_of_lt (Nat.lt_of_lt_of_le V8.lt sx19_0)
  have KK19 : Keep h0 T19.heap [] := Keep.trans K10 K19 (allS (Or.inr z1) all0)
  have N19 := Fr.app N9 N19q
  obtain ⟨fs, hr, hrun, hended, hW, hsame⟩ := X19.leave (v := some (.ref b1)) (fun h => by rw [Bd.returns] at h; cases h)
  refine ⟨_, _, pre0 _ ?_, hrun, hended, _, _, rfl, ?_, ⟨_, rfl⟩, hW, hsame.mono (by decide) (by decide)⟩
  · refine XS.iloadN X0.here hx rfl (hb hby d1_0) rfl ?_
    refine XS.ifYes X0.here hx rfl (pc0 := 1) (pc' := 15) rfl (hb hby d1_1) rfl ((if0 _ _).trans (feq (by decide : ¬ ((1 : Int32) = (0 : Int32)))).2) (by decide) (by decide) ?_
    refine XS.iloadN X0.here hx rfl (hb hby d1_15) rfl ?_
    refine XS.iconst X0.here hx rfl (hb hby d1_16) ?_
    refine XS.icmpNo X0.here hx rfl (hb hby d1_17) rfl (teq (by decide : (1 : Int32) = (1 : Int32))).2 ?_
    refine st1 _ ?_
    refine XS.dup X1.here hx rfl (hb hby d1_23) rfl rfl ?_
    refine XS.iconst X1.here hx rfl (hb hby d1_24) ?_
    refine st5 _ ?_
    refine XS.dup X5.here hx rfl (hb hby d1_27) rfl rfl ?_
    refine XS.iconst X5.here hx rfl (hb hby d1_28) ?_
    refine XS.iloadN X5.here hx rfl (hb hby d1_29) rfl ?_
    refine st8 _ ?_
    show Steps _ _ _ (T8.setTop (mkF m 31 #[iv (1 : Int32), iv p1, iv p2, iv p3, iv p4] [(.ref b5), (.ref b1), (.ref b1)])) _
    refine st19.trans ?_
    show Steps _ _ _ (T19.setTop (mkF m 34 #[iv (1 : Int32), iv p1, iv p2, iv p3, iv p4] [(.ref b1)])) _
    exact retOut X19 hx Bd.returns rfl (Or.inr (Or.inr (Or.inr (Or.inr ⟨rfl, rfl, rfl⟩)))) (hb hby d1_34) hr
  · show Q_rmMk_1 Z p1 p2 p3 p4 zC h0 n0 _ T19.heap _
    exact ⟨b1, t_19, kt_19, z_19, vs_19, cd_19, rfl, N19, KK19, z1, zt_19, ne26, f20, f21, f22, f23, f24, f25⟩

theorem ef_rmNL2 (m : MethodId) (x0 : Int32) : entryFrame m #[(.int x0)] 1 = mkF m 0 #[iv x0] [] := by first | (simp [entryFrame, mkF, argsToLocals, Value.category]; done) | rfl
set_option maxRecDepth 65536 in
set_option maxHeartbeats 40000000 in
theorem rmNL2 (l : Launch) (Z : State) (a0 : Array Value) (hw : ∀ d ∈ tables_1, d.before a0 Z = true) (ws : List Jvm.Cond)  (h0 : Heap) (n0 : Nat) (Z0 : n0 ≤ h0.size) :
    MetFree l own_y0 (head1 (Jvm.Cond.code own_y0 jdk_52_method_3_code 1 (some .int) :: ws) ({ frames := 0, cells := 0, slots := 0, locals := 0 } : Room)) (fun a U => a = #[(.int (2 : Int32))] ∧ Z.Warmed39 U.vm ∧ U.heap = h0) (fun _ _ _ _ _ => True) (fun _ U o U' => ∃ v L, o = .returned v ∧ own_QP (some (.int (4 : Int32))) h0 n0 v U'.heap L ∧ FrameEnd U o U' L ({ frames := 0, cells := 0, slots := 0, locals := 0 } : Room).cells ({ frames := 0, cells := 0, slots := 0, locals := 0 } : Room).slots) := by
  refine MetFree.of_bodySF (plainFor_of_name pn_9) hisR ?_
  intro p e s m args below meth c s₁ Bd hml0 hP hK
  obtain ⟨rfl, hZ, hh⟩ := hP
  have hx := Bd.exec
  have hby := Bd.bytes
  have hml : c.maxLocals = 1 := hml0
  have hown : s.vm.findClass "java/lang/StringUTF16" = some m.cls := findClass_of_methodNamed Bd.named
  have hnm := (name_of_methodNamed Bd.named Bd.method).1
  have X0 : Stand p l e ({ frames := 0, cells := 0, slots := 0, locals := 0 } : Room) s m #[(.int (2 : Int32))] below meth c s₁ [] 0 0 := Stand.of_body Bd
  have e0 : s₁.heap = h0 := by rw [← hh, Bd.state]; rfl
  have N0 := Fr.nil n0
  have pre0 : ∀ t, Steps p.tables e below (s₁.setTop (mkF m 0 #[iv (2 : Int32)] [])) t → Steps p.tables e below (s₁.setTop (entryFrame m #[(.int (2 : Int32))] 1)) t := fun t k => castTop (ef_rmNL2 m (2 : Int32)) k
  obtain ⟨fs, hr, hrun, hended, hW, hsame⟩ := X0.leave (v := some (.int (4 : Int32))) (fun h => by rw [Bd.returns] at h; cases h)
  refine ⟨_, _, pre0 _ ?_, hrun, hended, _, _, rfl, ?_, ⟨_, rfl⟩, hW, hsame.mono (by decide) (by decide)⟩
  · refine XS.iloadN X0.here hx rfl (hb hby d9_0) rfl ?_
    refine XS.ifYes X0.here hx rfl (pc0 := 1) (pc' := 12) rfl (hb hby d9_1) rfl ((if0 _ _).trans (flt (by decide : ¬ ((2 : Int32) < (0 : Int32)))).2.1) (by decide) (by decide) ?_
    refine XS.iloadN X0.here hx rfl (hb hby d9_12) rfl ?_
    refine X0.ldcInt hx hown (mvT hZ (own_g hw 38 rfl)) (g := (mkF m 13 #[iv (2 : Int32)] [(.int (2 : Int32))])) rfl (hb hby d9_13) _ ?_
    refine XS.icmpYes X0.here hx rfl (pc0 := 15) (pc' := 55) rfl (hb hby d9_15) rfl (tlt (by decide : (2 : Int32) < (1073741823 : Int32))).1 (by decide) (by decide) ?_
    refine XS.iloadN X0.here hx rfl (hb hby d9_55) rfl ?_
    refine XS.iconst X0.here hx rfl (hb hby d9_56) ?_
    refine XS.ishl X0.here hx rfl (hb hby d9_57) rfl ?_
    show Steps _ _ _ (s₁.setTop (mkF m 58 #[iv (2 : Int32)] [(.int ((2 : Int32) <<< ((1 : Int32) &&& 31)))])) _
    rw [(by decide : ((2 : Int32) <<< ((1 : Int32) &&& 31)) = (4 : Int32))]
    show Steps _ _ _ (s₁.setTop (mkF m 58 #[iv (2 : Int32)] [(.int (4 : Int32))])) _
    exact retI X0 hx Bd.returns (hb hby d9_58) hr
  · show own_QP (some (.int (4 : Int32))) h0 n0 _ s₁.heap _
    rw [e0]
    exact ⟨rfl, N0, rfl⟩

theorem ef_rmNF2 (m : MethodId) (x0 : Int32) : entryFrame m #[(.int x0)] 1 = mkF m 0 #[iv x0] [] := by first | (simp [entryFrame, mkF, argsToLocals, Value.category]; done) | rfl
def Q_rmNF2 (Z : State)  (h0 : Heap) (n0 : Nat) (v : Option Value) (h : Heap) (L : List Loc) : Prop := ∃ (t : Addr), ∃ (kt : ClassId), (v = (some (.ref t)) ∧ Fr n0 L ∧ Keep h0 h [] ∧ h0.size ≤ t ∧ Arv Z h t kt .byte (4 : Int32) [(.int (0 : Int32)), (.int (0 : Int32)), (.int (0 : Int32)), (.int (0 : Int32))] (.int (0 : Int32)))
set_option maxRecDepth 65536 in
set_option maxHeartbeats 40000000 in
theorem rmNF2 (l : Launch) (Z : State) (a0 : Array Value) (hw : ∀ d ∈ tables_1, d.before a0 Z = true) (ws : List Jvm.Cond)  (h0 : Heap) (n0 : Nat) (Z0 : n0 ≤ h0.size) :
    MetFree l own_y1 (head1 (Jvm.Cond.code own_y1 jdk_52_method_2_code 1 (some (.array .byte)) :: ws) ({ frames := 1, cells := 1, slots := 4, locals := 12 } : Room)) (fun a U => a = #[(.int (2 : Int32))] ∧ Z.Warmed39 U.vm ∧ U.heap = h0) (fun _ _ _ _ _ => True) (fun _ U o U' => ∃ v L, o = .returned v ∧ Q_rmNF2 Z  h0 n0 v U'.heap L ∧ FrameEnd U o U' L ({ frames := 1, cells := 1, slots := 4, locals := 12 } : Room).cells ({ frames := 1, cells := 1, slots := 4, locals := 12 } : Room).slots) := by
  refine MetFree.of_bodySF (plainFor_of_name pn_8) hisR ?_
  intro p e s m args below meth c s₁ Bd hml0 hP hK
  obtain ⟨rfl, hZ, hh⟩ := hP
  have hx := Bd.exec
  have hby := Bd.bytes
  have hml : c.maxLocals = 1 := hml0
  have hown : s.vm.findClass "java/lang/StringUTF16" = some m.cls := findClass_of_methodNamed Bd.named
  have hnm := (name_of_methodNamed Bd.named Bd.method).1
  have X0 : Stand p l e ({ frames := 1, cells := 1, slots := 4, locals := 12 } : Room) s m #[(.int (2 : Int32))] below meth c s₁ [] 0 0 := Stand.of_body Bd
  have e0 : s₁.heap = h0 := by rw [← hh, Bd.state]; rfl
  have N0 := Fr.nil n0
  have pre0 : ∀ t, Steps p.tables e below (s₁.setTop (mkF m 0 #[iv (2 : Int32)] [])) t → Steps p.tables e below (s₁.setTop (entryFrame m #[(.int (2 : Int32))] 1)) t := fun t k => castTop (ef_rmNF2 m (2 : Int32)) k
  obtain ⟨_, _, ⟨T1, L1, k1, n1⟩, -, X1, ⟨Lc1, hQ1, l1, y1, z1⟩, st1⟩ := Jvm.LawKit.callS X0 hx (y := own_y0) hown (mvT hZ (own_g hw 35 rfl)) (mvT hZ (own_g hw 36 rfl)) (mvT hZ (own_g hw 23 rfl)) (mvT hZ (own_g hw 37 rfl)) (by decide) (backOf (W := 0) (rmNL2 l Z a0 hw []  h0 n0 Z0 ) hZ (own_g hw 37 rfl) (own_g hw 23 rfl) (by decide) (by decide)) (g := (mkF m 1 #[iv (2 : Int32)] [(.int (2 : Int32))])) rfl (by rw [hml]; rfl) (argsL := [(.int (2 : Int32))]) (rest := []) (lenOf pd__I_I rfl) rfl (by show 2 * 0 + _ ≤ _; exact Nat.le_of_eq rfl) (hb hby d8_1) (fun _ _ => ⟨rfl, e0, (by decide : 0 + 0 ≤ _), (by decide : 0 + 0 ≤ _)⟩)
  dsimp only [Pt.U, Pt.locs, Pt.cells, Pt.slots] at X1 l1 y1 z1 st1 hQ1
  subst l1 y1 z1
  obtain ⟨rfl, N1q, e1⟩ := hQ1
  have N1 := Fr.app N0 N1q
  obtain ⟨T2, h2, k2, X2, e2, E2, A2, st2⟩ := newP X1 hx hZ (own_g hw 25 rfl) e1 (g := (mkF m 4 #[iv (2 : Int32)] [(.int (4 : Int32))])) rfl (hb hby d8_4) rfl (by decide) (cap := 4) (by decide) (by decide) (by decide) (by decide)
  obtain ⟨b2, g2⟩ : ∃ z, z = h0.size := ⟨_, rfl⟩
  rw [← g2] at A2 st2
  have o2 : n0 ≤ b2 := Nat.le_trans Z0 (Nat.le_of_eq g2.symm)
  have z2 : h0.size ≤ b2 := Nat.le_trans (Keep.refl h0 []).1 (Nat.le_of_eq g2.symm)
  have K2 : Keep h0 h2 [] := (Keep.refl h0 []).ext E2
  have V2 : Arv Z h2 b2 k2 .byte (4 : Int32) [(.int (0 : Int32)), (.int (0 : Int32)), (.int (0 : Int32)), (.int (0 : Int32))] (.int (0 : Int32)) := (Arv.new A2 (by decide)).pad (pad_rep [] (.int (0 : Int32)) 4)
  obtain ⟨fs, hr, hrun, hended, hW, hsame⟩ := X2.leave (v := some (.ref b2)) (fun h => by rw [Bd.returns] at h; cases h)
  refine ⟨_, _, pre0 _ ?_, hrun, hended, _, _, rfl, ?_, ⟨_, rfl⟩, hW, hsame.mono (by decide) (by decide)⟩
  · refine XS.iloadN X0.here hx rfl (hb hby d8_0) rfl ?_
    show Steps _ _ _ (s₁.setTop (mkF m 1 #[iv (2 : Int32)] [(.int (2 : Int32))])) _
    refine st1 _ ?_
    refine st2 _ ?_
    show Steps _ _ _ (T2.setTop (mkF m 6 #[iv (2 : Int32)] [(.ref b2)])) _
    exact retOut X2 hx Bd.returns rfl (Or.inr (Or.inr (Or.inr (Or.inr ⟨rfl, rfl, rfl⟩)))) (hb hby d8_6) hr
  · show Q_rmNF2 Z  h0 n0 _ T2.heap _
    rw [e2]
    exact ⟨b2, k2, rfl, N1, K2, z2, V2⟩

theorem ef_rmPC2_0 (m : MethodId) (x0 : Addr) (x1 : Int32) (x2 : Int32) : entryFrame m #[(.ref x0), (.int x1), (.int x2)] 3 = mkF m 0 #[rv x0, iv x1, iv x2] [] := by first | (simp [entryFrame, mkF, argsToLocals, Value.category]; done) | rfl
def Q_rmPC2_0 (Z : State) (u0 : Addr) (p2 : Int32) (kB : ClassId) (d0 : Int32) (d1 : Int32) (d2 : Int32) (d3 : Int32) (h0 : Heap) (n0 : Nat) (v : Option Value) (h : Heap) (L : List Loc) : Prop := (v = none ∧ Fr n0 L ∧ Keep h0 h [u0] ∧ Arv Z h u0 kB .byte (4 : Int32) [(.int (((p2 >>> ((0 : Int32) &&& 31)).toInt8.toInt32).toInt8.toInt32)), (.int (((p2 >>> ((8 : Int32) &&& 31)).toInt8.toInt32).toInt8.toInt32)), (.int d2), (.int d3)] (.int (0 : Int32)))
set_option maxRecDepth 65536 in
set_option maxHeartbeats 40000000 in
theorem rmPC2_0 (l : Launch) (Z : State) (a0 : Array Value) (hw : ∀ d ∈ tables_1, d.before a0 Z = true) (ws : List Jvm.Cond) (u0 : Addr) (p2 : Int32) (kB : ClassId) (d0 : Int32) (d1 : Int32) (d2 : Int32) (d3 : Int32) (h0 : Heap) (n0 : Nat) (Z0 : n0 ≤ h0.size) (P_S_StringUTF16__assertionsDisabled : Sta Z h0 "java/lang/StringUTF16" "$assertionsDisabled" "Z" (.int (1 : Int32))) (P_S_StringUTF16_HI_BYTE_SHIFT : Sta Z h0 "java/lang/StringUTF16" "HI_BYTE_SHIFT" "I" (.int (0 : Int32))) (P_S_StringUTF16_LO_BYTE_SHIFT : Sta Z h0 "java/lang/StringUTF16" "LO_BYTE_SHIFT" "I" (.int (8 : Int32))) (P_V_u0 : Arv Z h0 u0 kB .byte (4 : Int32) [(.int d0), (.int d1), (.int d2), (.int d3)] (.int (0 : Int32))) (g_u0 : n0 ≤ u0) :
    MetFree l own_y2 (head1 (Jvm.Cond.code own_y2 jdk_52_method_4_code 3 none :: ws) ({ frames := 0, cells := 0, slots := 0, locals := 0 } : Room)) (fun a U => a = #[(.ref u0), (.int (0 : Int32)), (.int p2)] ∧ Z.Warmed39 U.vm ∧ U.heap = h0) (fun _ _ _ _ _ => True) (fun _ U o U' => ∃ v L, o = .returned v ∧ Q_rmPC2_0 Z u0 p2 kB d0 d1 d2 d3 h0 n0 v U'.heap L ∧ FrameEnd U o U' L ({ frames := 0, cells := 0, slots := 0, locals := 0 } : Room).cells ({ frames := 0, cells := 0, slots := 0, locals := 0 } : Room).slots) := by
  refine MetFree.of_bodySF (plainFor_of_name pn_10) hisR ?_
  intro p e s m args below meth c s₁ Bd hml0 hP hK
  obtain ⟨rfl, hZ, hh⟩ := hP
  have hx := Bd.exec
  have hby := Bd.bytes
  have hml : c.maxLocals = 3 := hml0
  have hown : s.vm.findClass "java/lang/StringUTF16" = some m.cls := findClass_of_methodNamed Bd.named
  have hnm := (name_of_methodNamed Bd.named Bd.method).1
  have X0 : Stand p l e ({ frames := 0, cells := 0, slots := 0, locals := 0 } : Room) s m #[(.ref u0), (.int (0 : Int32)), (.int p2)] below meth c s₁ [] 0 0 := Stand.of_body Bd
  have e0 : s₁.heap = h0 := by rw [← hh, Bd.state]; rfl
  have N0 := Fr.nil n0
  have pre0 : ∀ t, Steps p.tables e below (s₁.setTop (mkF m 0 #[rv u0, iv (0 : Int32), iv p2] [])) t → Steps p.tables e below (s₁.setTop (entryFrame m #[(.ref u0), (.int (0 : Int32)), (.int p2)] 3)) t := fun t k => castTop (ef_rmPC2_0 m u0 (0 : Int32) p2) k
  obtain ⟨T1, X1, e1, st1⟩ := getS2 X0 hx hZ hown (host := "") (Or.inl (own_g hw 42 rfl)) Via.refl e0 P_S_StringUTF16__assertionsDisabled (g := (mkF m 0 #[rv u0, iv (0 : Int32), iv p2] [])) rfl (hb hby d10_0)
  obtain ⟨T2, X2, e2, st2⟩ := getS2 X1 hx hZ hown (host := "") (Or.inl (own_g hw 43 rfl)) Via.refl e1 P_S_StringUTF16_HI_BYTE_SHIFT (g := (mkF m 38 #[rv u0, iv (1 : Int32), iv p2] [(.int p2), (.int (0 : Int32)), (.ref u0)])) rfl (hb hby d10_38)
  obtain ⟨cl3, Ar3, qq3, S3, N3_, H3, G3⟩ := id P_V_u0
  have hin3 : ¬ ((0 : Int32) < 0 ∨ cl3.slots.size ≤ ((0 : Int32)).toNatClampNeg) := inb_of S3 ⟨by decide, by decide⟩
  obtain ⟨T4, h4, X4, e4, W4, st4⟩ := stB X2 hx hZ e2 Ar3 (j := (0 : Int32)) hin3 (g := (mkF m 43 #[rv u0, iv (1 : Int32), iv p2] [(.int ((p2 >>> ((0 : Int32) &&& 31)).toInt8.toInt32)), (.int (0 : Int32)), (.ref u0)])) rfl rfl (hb hby d10_43)
  have V4 : Arv Z h4 u0 kB .byte (4 : Int32) [(.int (((p2 >>> ((0 : Int32) &&& 31)).toInt8.toInt32).toInt8.toInt32)), (.int d1), (.int d2), (.int d3)] (.int (0 : Int32)) := Arv.set Ar3 qq3 S3 N3_ H3 G3 (fits_nar_byte _) W4 0 rfl (Nat.le_of_ble_eq_true rfl)
  have N5 := Fr.snoc X4 N0 g_u0
  have K6 : Keep h0 h4 [u0] := (Keep.refl h0 [u0]).wr W4 (Or.inl (List.mem_of_getElem? (i := 0) rfl))
  have f7 : Sta Z h4 "java/lang/StringUTF16" "LO_BYTE_SHIFT" "I" (.int (8 : Int32)) := (P_S_StringUTF16_LO_BYTE_SHIFT.wr W4)
  obtain ⟨T8, X8, e8, st8⟩ := getS2 X4 hx hZ hown (host := "") (Or.inl (own_g hw 44 rfl)) Via.refl e4 f7 (g := (mkF m 47 #[rv u0, iv (1 : Int32), iv p2] [(.int p2), (.int (1 : Int32)), (.ref u0)])) rfl (hb hby d10_47)
  obtain ⟨cl9, Ar9, qq9, S9, N9_, H9, G9⟩ := id V4
  have hin9 : ¬ ((1 : Int32) < 0 ∨ cl9.slots.size ≤ ((1 : Int32)).toNatClampNeg) := inb_of S9 ⟨by decide, by decide⟩
  obtain ⟨T10, h10, X10, e10, W10, st10⟩ := stB X8 hx hZ e8 Ar9 (j := (1 : Int32)) hin9 (g := (mkF m 52 #[rv u0, iv (1 : Int32), iv p2] [(.int ((p2 >>> ((8 : Int32) &&& 31)).toInt8.toInt32)), (.int (1 : Int32)), (.ref u0)])) rfl rfl (hb hby d10_52)
  have V10 : Arv Z h10 u0 kB .byte (4 : Int32) [(.int (((p2 >>> ((0 : Int32) &&& 31)).toInt8.toInt32).toInt8.toInt32)), (.int (((p2 >>> ((8 : Int32) &&& 31)).toInt8.toInt32).toInt8.toInt32)), (.int d2), (.int d3)] (.int (0 : Int32)) := Arv.set Ar9 qq9 S9 N9_ H9 G9 (fits_nar_byte _) W10 1 rfl (Nat.le_of_ble_eq_true rfl)
  have N11 := Fr.snoc X10 N5 g_u0
  have K12 : Keep h0 h10 [u0] := K6.wr W10 (Or.inl (List.mem_of_getElem? (i := 0) rfl))
  obtain ⟨fs, hr, hrun, hended, hW, hsame⟩ := X10.leave (v := none) (fun _ => rfl)
  refine ⟨_, _, pre0 _ ?_, hrun, hended, _, _, rfl, ?_, ⟨_, rfl⟩, hW, hsame.mono (by decide) (by decide)⟩
  · refine st1 _ ?_
    refine XS.ifYes X1.here hx rfl (pc0 := 3) (pc' := 28) rfl (hb hby d10_3) rfl ((if0 _ _).trans (feq (by decide : ¬ ((1 : Int32) = (0 : Int32)))).2) (by decide) (by decide) ?_
    refine XS.iloadN X1.here hx rfl (hb hby d10_28) rfl ?_
    refine XS.iconst X1.here hx rfl (hb hby d10_29) ?_
    refine XS.ishl X1.here hx rfl (hb hby d10_30) rfl ?_
    show Steps _ _ _ (T1.setTop (mkF m 31 #[rv u0, iv (0 : Int32), iv p2] [(.int ((0 : Int32) <<< ((1 : Int32) &&& 31)))])) _
    rw [(by decide : ((0 : Int32) <<< ((1 : Int32) &&& 31)) = (0 : Int32))]
    refine XS.istoreN X1.here hx rfl (hb hby d10_31) rfl (l' := #[rv u0, iv (0 : Int32), iv p2]) rfl ?_
    refine XS.aloadN X1.here hx rfl (hb hby d10_32) rfl rfl ?_
    refine XS.iloadN X1.here hx rfl (hb hby d10_33) rfl ?_
    refine XS.iinc X1.here hx rfl (hb hby d10_34) rfl (l' := #[rv u0, iv (1 : Int32), iv p2]) rfl ?_
    refine XS.iloadN X1.here hx rfl (hb hby d10_37) rfl ?_
    refine st2 _ ?_
    refine XS.ishr X2.here hx rfl (hb hby d10_41) rfl ?_
    refine XS.i2b X2.here hx rfl (hb hby d10_42) rfl ?_
    refine st4 _ ?_
    refine XS.aloadN X4.here hx rfl (hb hby d10_44) rfl rfl ?_
    refine XS.iloadN X4.here hx rfl (hb hby d10_45) rfl ?_
    refine XS.iloadN X4.here hx rfl (hb hby d10_46) rfl ?_
    refine st8 _ ?_
    refine XS.ishr X8.here hx rfl (hb hby d10_50) rfl ?_
    refine XS.i2b X8.here hx rfl (hb hby d10_51) rfl ?_
    refine st10 _ ?_
    show Steps _ _ _ (T10.setTop (mkF m 53 #[rv u0, iv (1 : Int32), iv p2] [])) _
    exact X10.returnOut hx Bd.returns (hb hby d10_53) hr
  · show Q_rmPC2_0 Z u0 p2 kB d0 d1 d2 d3 h0 n0 _ T10.heap _
    rw [e10]
    exact ⟨rfl, N11, K12, V10⟩

theorem ef_rmGC2_0 (m : MethodId) (x0 : Addr) (x1 : Int32) : entryFrame m #[(.ref x0), (.int x1)] 2 = mkF m 0 #[rv x0, iv x1] [] := by first | (simp [entryFrame, mkF, argsToLocals, Value.category]; done) | rfl
set_option maxRecDepth 65536 in
set_option maxHeartbeats 40000000 in
theorem rmGC2_0 (l : Launch) (Z : State) (a0 : Array Value) (hw : ∀ d ∈ tables_1, d.before a0 Z = true) (ws : List Jvm.Cond) (u0 : Addr) (kB : ClassId) (d0 : Int32) (d1 : Int32) (d2 : Int32) (d3 : Int32) (h0 : Heap) (n0 : Nat) (Z0 : n0 ≤ h0.size) (P_S_StringUTF16__assertionsDisabled : Sta Z h0 "java/lang/StringUTF16" "$assertionsDisabled" "Z" (.int (1 : Int32))) (P_S_StringUTF16_HI_BYTE_SHIFT : Sta Z h0 "java/lang/StringUTF16" "HI_BYTE_SHIFT" "I" (.int (0 : Int32))) (P_S_StringUTF16_LO_BYTE_SHIFT : Sta Z h0 "java/lang/StringUTF16" "LO_BYTE_SHIFT" "I" (.int (8 : Int32))) (P_V_u0 : Arv Z h0 u0 kB .byte (4 : Int32) [(.int d0), (.int d1), (.int d2), (.int d3)] (.int (0 : Int32))) :
    MetFree l own_y3 (head1 (Jvm.Cond.code own_y3 jdk_52_method_5_code 2 (some .char) :: ws) ({ frames := 0, cells := 0, slots := 0, locals := 0 } : Room)) (fun a U => a = #[(.ref u0), (.int (0 : Int32))] ∧ Z.Warmed39 U.vm ∧ U.heap = h0) (fun _ _ _ _ _ => True) (fun _ U o U' => ∃ v L, o = .returned v ∧ own_QP (some (.int (own_gc d0 d1))) h0 n0 v U'.heap L ∧ FrameEnd U o U' L ({ frames := 0, cells := 0, slots := 0, locals := 0 } : Room).cells ({ frames := 0, cells := 0, slots := 0, locals := 0 } : Room).slots) := by
  refine MetFree.of_bodySF (plainFor_of_name pn_11) hisR ?_
  intro p e s m args below meth c s₁ Bd hml0 hP hK
  obtain ⟨rfl, hZ, hh⟩ := hP
  have hx := Bd.exec
  have hby := Bd.bytes
  have hml : c.maxLocals = 2 := hml0
  have hown : s.vm.findClass "java/lang/StringUTF16" = some m.cls := findClass_of_methodNamed Bd.named
  have hnm := (name_of_methodNamed Bd.named Bd.method).1
  have X0 : Stand p l e ({ frames := 0, cells := 0, slots := 0, locals := 0 } : Room) s m #[(.ref u0), (.int (0 : Int32))] below meth c s₁ [] 0 0 := Stand.of_body Bd
  have e0 : s₁.heap = h0 := by rw [← hh, Bd.state]; rfl
  have N0 := Fr.nil n0
  have pre0 : ∀ t, Steps p.tables e below (s₁.setTop (mkF m 0 #[rv u0, iv (0 : Int32)] [])) t → Steps p.tables e below (s₁.setTop (entryFrame m #[(.ref u0), (.int (0 : Int32))] 2)) t := fun t k => castTop (ef_rmGC2_0 m u0 (0 : Int32)) k
  obtain ⟨T1, X1, e1, st1⟩ := getS2 X0 hx hZ hown (host := "") (Or.inl (own_g hw 42 rfl)) Via.refl e0 P_S_StringUTF16__assertionsDisabled (g := (mkF m 0 #[rv u0, iv (0 : Int32)] [])) rfl (hb hby d11_0)
  obtain ⟨cl2, Ar2, qq2, S2, N2_, H2, G2⟩ := id P_V_u0
  have hin2 : ¬ ((0 : Int32) < 0 ∨ cl2.slots.size ≤ ((0 : Int32)).toNatClampNeg) := inb_of S2 ⟨by decide, by decide⟩
  have hat2 : cl2.slots[((0 : Int32)).toNatClampNeg]? = some (.int d0) := H2.at hin2 rfl
  obtain ⟨T3, X3, e3, st3⟩ := getS2 X1 hx hZ hown (host := "") (Or.inl (own_g hw 43 rfl)) Via.refl e1 P_S_StringUTF16_HI_BYTE_SHIFT (g := (mkF m 42 #[rv u0, iv (1 : Int32)] [(.int (d0 &&& (255 : Int32)))])) rfl (hb hby d11_42)
  obtain ⟨cl4, Ar4, qq4, S4, N4_, H4, G4⟩ := id P_V_u0
  have hin4 : ¬ ((1 : Int32) < 0 ∨ cl4.slots.size ≤ ((1 : Int32)).toNatClampNeg) := inb_of S4 ⟨by decide, by decide⟩
  have hat4 : cl4.slots[((1 : Int32)).toNatClampNeg]? = some (.int d1) := H4.at hin4 rfl
  obtain ⟨T5, X5, e5, st5⟩ := getS2 X3 hx hZ hown (host := "") (Or.inl (own_g hw 44 rfl)) Via.refl e3 P_S_StringUTF16_LO_BYTE_SHIFT (g := (mkF m 53 #[rv u0, iv (1 : Int32)] [(.int (d1 &&& (255 : Int32))), (.int ((d0 &&& (255 : Int32)) <<< ((0 : Int32) &&& 31)))])) rfl (hb hby d11_53)
  obtain ⟨fs, hr, hrun, hended, hW, hsame⟩ := X5.leave (v := some (.int (nar .char ((((d0 &&& (255 : Int32)) <<< ((0 : Int32) &&& 31)) ||| ((d1 &&& (255 : Int32)) <<< ((8 : Int32) &&& 31))).toUInt32.toUInt16.toUInt32.toInt32)))) (fun h => by rw [Bd.returns] at h; cases h)
  refine ⟨_, _, pre0 _ ?_, hrun, hended, _, _, rfl, ?_, ⟨_, rfl⟩, hW, hsame.mono (by decide) (by decide)⟩
  · refine st1 _ ?_
    refine XS.ifYes X1.here hx rfl (pc0 := 3) (pc' := 28) rfl (hb hby d11_3) rfl ((if0 _ _).trans (feq (by decide : ¬ ((1 : Int32) = (0 : Int32)))).2) (by decide) (by decide) ?_
    refine XS.iloadN X1.here hx rfl (hb hby d11_28) rfl ?_
    refine XS.iconst X1.here hx rfl (hb hby d11_29) ?_
    refine XS.ishl X1.here hx rfl (hb hby d11_30) rfl ?_
    show Steps _ _ _ (T1.setTop (mkF m 31 #[rv u0, iv (0 : Int32)] [(.int ((0 : Int32) <<< ((1 : Int32) &&& 31)))])) _
    rw [(by decide : ((0 : Int32) <<< ((1 : Int32) &&& 31)) = (0 : Int32))]
    refine XS.istoreN X1.here hx rfl (hb hby d11_31) rfl (l' := #[rv u0, iv (0 : Int32)]) rfl ?_
    refine XS.aloadN X1.here hx rfl (hb hby d11_32) rfl rfl ?_
    refine XS.iloadN X1.here hx rfl (hb hby d11_33) rfl ?_
    refine XS.iinc X1.here hx rfl (hb hby d11_34) rfl (l' := #[rv u0, iv (1 : Int32)]) rfl ?_
    refine X1.baloadBytes hx (j := (0 : Int32)) (v := (.int d0)) (by rw [e1]; exact Ar2.1) (State.isArrayOf_alike hZ.alike Ar2.2.1) Ar2.2.2 hin2 hat2 (g := (mkF m 37 #[rv u0, iv (1 : Int32)] [(.int (0 : Int32)), (.ref u0)])) rfl rfl (hb hby d11_37) _ ?_
    refine XS.sipush X1.here hx rfl (hb hby d11_38) ?_
    refine XS.iand X1.here hx rfl (hb hby d11_41) rfl ?_
    refine st3 _ ?_
    refine XS.ishl X3.here hx rfl (hb hby d11_45) rfl ?_
    refine XS.aloadN X3.here hx rfl (hb hby d11_46) rfl rfl ?_
    refine XS.iloadN X3.here hx rfl (hb hby d11_47) rfl ?_
    refine X3.baloadBytes hx (j := (1 : Int32)) (v := (.int d1)) (by rw [e3]; exact Ar4.1) (State.isArrayOf_alike hZ.alike Ar4.2.1) Ar4.2.2 hin4 hat4 (g := (mkF m 48 #[rv u0, iv (1 : Int32)] [(.int (1 : Int32)), (.ref u0), (.int ((d0 &&& (255 : Int32)) <<< ((0 : Int32) &&& 31)))])) rfl rfl (hb hby d11_48) _ ?_
    refine XS.sipush X3.here hx rfl (hb hby d11_49) ?_
    refine XS.iand X3.here hx rfl (hb hby d11_52) rfl ?_
    refine st5 _ ?_
    refine XS.ishl X5.here hx rfl (hb hby d11_56) rfl ?_
    refine XS.ior X5.here hx rfl (hb hby d11_57) rfl ?_
    refine XS.i2c X5.here hx rfl (hb hby d11_58) rfl ?_
    show Steps _ _ _ (T5.setTop (mkF m 59 #[rv u0, iv (1 : Int32)] [(.int ((((d0 &&& (255 : Int32)) <<< ((0 : Int32) &&& 31)) ||| ((d1 &&& (255 : Int32)) <<< ((8 : Int32) &&& 31))).toUInt32.toUInt16.toUInt32.toInt32))])) _
    exact retN X5 hx (t := .char) Bd.returns (by simp) (hb hby d11_59) hr
  · show own_QP (some (.int (own_gc d0 d1))) h0 n0 _ T5.heap _
    rw [e5]
    exact ⟨(by first | rfl | simp []), N0, rfl⟩

theorem ef_rmPC2_1 (m : MethodId) (x0 : Addr) (x1 : Int32) (x2 : Int32) : entryFrame m #[(.ref x0), (.int x1), (.int x2)] 3 = mkF m 0 #[rv x0, iv x1, iv x2] [] := by first | (simp [entryFrame, mkF, argsToLocals, Value.category]; done) | rfl
def Q_rmPC2_1 (Z : State) (u0 : Addr) (p2 : Int32) (kB : ClassId) (d0 : Int32) (d1 : Int32) (d2 : Int32) (d3 : Int32) (h0 : Heap) (n0 : Nat) (v : Option Value) (h : Heap) (L : List Loc) : Prop := (v = none ∧ Fr n0 L ∧ Keep h0 h [u0] ∧ Arv Z h u0 kB .byte (4 : Int32) [(.int d0), (.int d1), (.int (((p2 >>> ((0 : Int32) &&& 31)).toInt8.toInt32).toInt8.toInt32)), (.int (((p2 >>> ((8 : Int32) &&& 31)).toInt8.toInt32).toInt8.toInt32))] (.int (0 : Int32)))
set_option maxRecDepth 65536 in
set_option maxHeartbeats 40000000 in
theorem rmPC2_1 (l : Launch) (Z : State) (a0 : Array Value) (hw : ∀ d ∈ tables_1, d.before a0 Z = true) (ws : List Jvm.Cond) (u0 : Addr) (p2 : Int32) (kB : ClassId) (d0 : Int32) (d1 : Int32) (d2 : Int32) (d3 : Int32) (h0 : Heap) (n0 : Nat) (Z0 : n0 ≤ h0.size) (P_S_StringUTF16__assertionsDisabled : Sta Z h0 "java/lang/StringUTF16" "$assertionsDisabled" "Z" (.int (1 : Int32))) (P_S_StringUTF16_HI_BYTE_SHIFT : Sta Z h0 "java/lang/StringUTF16" "HI_BYTE_SHIFT" "I" (.int (0 : Int32))) (P_S_StringUTF16_LO_BYTE_SHIFT : Sta Z h0 "java/lang/StringUTF16" "LO_BYTE_SHIFT" "I" (.int (8 : Int32))) (P_V_u0 : Arv Z h0 u0 kB .byte (4 : Int32) [(.int d0), (.int d1), (.int d2), (.int d3)] (.int (0 : Int32))) (g_u0 : n0 ≤ u0) :
    MetFree l own_y2 (head1 (Jvm.Cond.code own_y2 jdk_52_method_4_code 3 none :: ws) ({ frames := 0, cells := 0, slots := 0, locals := 0 } : Room)) (fun a U => a = #[(.ref u0), (.int (1 : Int32)), (.int p2)] ∧ Z.Warmed39 U.vm ∧ U.heap = h0) (fun _ _ _ _ _ => True) (fun _ U o U' => ∃ v L, o = .returned v ∧ Q_rmPC2_1 Z u0 p2 kB d0 d1 d2 d3 h0 n0 v U'.heap L ∧ FrameEnd U o U' L ({ frames := 0, cells := 0, slots := 0, locals := 0 } : Room).cells ({ frames := 0, cells := 0, slots := 0, locals := 0 } : Room).slots) := by
  refine MetFree.of_bodySF (plainFor_of_name pn_10) hisR ?_
  intro p e s m args below meth c s₁ Bd hml0 hP hK
  obtain ⟨rfl, hZ, hh⟩ := hP
  have hx := Bd.exec
  have hby := Bd.bytes
  have hml : c.maxLocals = 3 := hml0
  have hown : s.vm.findClass "java/lang/StringUTF16" = some m.cls := findClass_of_methodNamed Bd.named
  have hnm := (name_of_methodNamed Bd.named Bd.method).1
  have X0 : Stand p l e ({ frames := 0, cells := 0, slots := 0, locals := 0 } : Room) s m #[(.ref u0), (.int (1 : Int32)), (.int p2)] below meth c s₁ [] 0 0 := Stand.of_body Bd
  have e0 : s₁.heap = h0 := by rw [← hh, Bd.state]; rfl
  have N0 := Fr.nil n0
  have pre0 : ∀ t, Steps p.tables e below (s₁.setTop (mkF m 0 #[rv u0, iv (1 : Int32), iv p2] [])) t → Steps p.tables e below (s₁.setTop (entryFrame m #[(.ref u0), (.int (1 : Int32)), (.int p2)] 3)) t := fun t k => castTop (ef_rmPC2_1 m u0 (1 : Int32) p2) k
  obtain ⟨T1, X1, e1, st1⟩ := getS2 X0 hx hZ hown (host := "") (Or.inl (own_g hw 42 rfl)) Via.refl e0 P_S_StringUTF16__assertionsDisabled (g := (mkF m 0 #[rv u0, iv (1 : Int32), iv p2] [])) rfl (hb hby d10_0)
  obtain ⟨T2, X2, e2, st2⟩ := getS2 X1 hx hZ hown (host := "") (Or.inl (own_g hw 43 rfl)) Via.refl e1 P_S_StringUTF16_HI_BYTE_SHIFT (g := (mkF m 38 #[rv u0, iv (3 : Int32), iv p2] [(.int p2), (.int (2 : Int32)), (.ref u0)])) rfl (hb hby d10_38)
  obtain ⟨cl3, Ar3, qq3, S3, N3_, H3, G3⟩ := id P_V_u0
  have hin3 : ¬ ((2 : Int32) < 0 ∨ cl3.slots.size ≤ ((2 : Int32)).toNatClampNeg) := inb_of S3 ⟨by decide, by decide⟩
  obtain ⟨T4, h4, X4, e4, W4, st4⟩ := stB X2 hx hZ e2 Ar3 (j := (2 : Int32)) hin3 (g := (mkF m 43 #[rv u0, iv (3 : Int32), iv p2] [(.int ((p2 >>> ((0 : Int32) &&& 31)).toInt8.toInt32)), (.int (2 : Int32)), (.ref u0)])) rfl rfl (hb hby d10_43)
  have V4 : Arv Z h4 u0 kB .byte (4 : Int32) [(.int d0), (.int d1), (.int (((p2 >>> ((0 : Int32) &&& 31)).toInt8.toInt32).toInt8.toInt32)), (.int d3)] (.int (0 : Int32)) := Arv.set Ar3 qq3 S3 N3_ H3 G3 (fits_nar_byte _) W4 2 rfl (Nat.le_of_ble_eq_true rfl)
  have N5 := Fr.snoc X4 N0 g_u0
  have K6 : Keep h0 h4 [u0] := (Keep.refl h0 [u0]).wr W4 (Or.inl (List.mem_of_getElem? (i := 0) rfl))
  have f7 : Sta Z h4 "java/lang/StringUTF16" "LO_BYTE_SHIFT" "I" (.int (8 : Int32)) := (P_S_StringUTF16_LO_BYTE_SHIFT.wr W4)
  obtain ⟨T8, X8, e8, st8⟩ := getS2 X4 hx hZ hown (host := "") (Or.inl (own_g hw 44 rfl)) Via.refl e4 f7 (g := (mkF m 47 #[rv u0, iv (3 : Int32), iv p2] [(.int p2), (.int (3 : Int32)), (.ref u0)])) rfl (hb hby d10_47)
  obtain ⟨cl9, Ar9, qq9, S9, N9_, H9, G9⟩ := id V4
  have hin9 : ¬ ((3 : Int32) < 0 ∨ cl9.slots.size ≤ ((3 : Int32)).toNatClampNeg) := inb_of S9 ⟨by decide, by decide⟩
  obtain ⟨T10, h10, X10, e10, W10, st10⟩ := stB X8 hx hZ e8 Ar9 (j := (3 : Int32)) hin9 (g := (mkF m 52 #[rv u0, iv (3 : Int32), iv p2] [(.int ((p2 >>> ((8 : Int32) &&& 31)).toInt8.toInt32)), (.int (3 : Int32)), (.ref u0)])) rfl rfl (hb hby d10_52)
  have V10 : Arv Z h10 u0 kB .byte (4 : Int32) [(.int d0), (.int d1), (.int (((p2 >>> ((0 : Int32) &&& 31)).toInt8.toInt32).toInt8.toInt32)), (.int (((p2 >>> ((8 : Int32) &&& 31)).toInt8.toInt32).toInt8.toInt32))] (.int (0 : Int32)) := Arv.set Ar9 qq9 S9 N9_ H9 G9 (fits_nar_byte _) W10 3 rfl (Nat.le_of_ble_eq_true rfl)
  have N11 := Fr.snoc X10 N5 g_u0
  have K12 : Keep h0 h10 [u0] := K6.wr W10 (Or.inl (List.mem_of_getElem? (i := 0) rfl))
  obtain ⟨fs, hr, hrun, hended, hW, hsame⟩ := X10.leave (v := none) (fun _ => rfl)
  refine ⟨_, _, pre0 _ ?_, hrun, hended, _, _, rfl, ?_, ⟨_, rfl⟩, hW, hsame.mono (by decide) (by decide)⟩
  · refine st1 _ ?_
    refine XS.ifYes X1.here hx rfl (pc0 := 3) (pc' := 28) rfl (hb hby d10_3) rfl ((if0 _ _).trans (feq (by decide : ¬ ((1 : Int32) = (0 : Int32)))).2) (by decide) (by decide) ?_
    refine XS.iloadN X1.here hx rfl (hb hby d10_28) rfl ?_
    refine XS.iconst X1.here hx rfl (hb hby d10_29) ?_
    refine XS.ishl X1.here hx rfl (hb hby d10_30) rfl ?_
    show Steps _ _ _ (T1.setTop (mkF m 31 #[rv u0, iv (1 : Int32), iv p2] [(.int ((1 : Int32) <<< ((1 : Int32) &&& 31)))])) _
    rw [(by decide : ((1 : Int32) <<< ((1 : Int32) &&& 31)) = (2 : Int32))]
    refine XS.istoreN X1.here hx rfl (hb hby d10_31) rfl (l' := #[rv u0, iv (2 : Int32), iv p2]) rfl ?_
    refine XS.aloadN X1.here hx rfl (hb hby d10_32) rfl rfl ?_
    refine XS.iloadN X1.here hx rfl (hb hby d10_33) rfl ?_
    refine XS.iinc X1.here hx rfl (hb hby d10_34) rfl (l' := #[rv u0, iv (3 : Int32), iv p2]) rfl ?_
    refine XS.iloadN X1.here hx rfl (hb hby d10_37) rfl ?_
    refine st2 _ ?_
    refine XS.ishr X2.here hx rfl (hb hby d10_41) rfl ?_
    refine XS.i2b X2.here hx rfl (hb hby d10_42) rfl ?_
    refine st4 _ ?_
    refine XS.aloadN X4.here hx rfl (hb hby d10_44) rfl rfl ?_
    refine XS.iloadN X4.here hx rfl (hb hby d10_45) rfl ?_
    refine XS.iloadN X4.here hx rfl (hb hby d10_46) rfl ?_
    refine st8 _ ?_
    refine XS.ishr X8.here hx rfl (hb hby d10_50) rfl ?_
    refine XS.i2b X8.here hx rfl (hb hby d10_51) rfl ?_
    refine st10 _ ?_
    show Steps _ _ _ (T10.setTop (mkF m 53 #[rv u0, iv (3 : Int32), iv p2] [])) _
    exact X10.returnOut hx Bd.returns (hb hby d10_53) hr
  · show Q_rmPC2_1 Z u0 p2 kB d0 d1 d2 d3 h0 n0 _ T10.heap _
    rw [e10]
    exact ⟨rfl, N11, K12, V10⟩

theorem ef_rmGC2_1 (m : MethodId) (x0 : Addr) (x1 : Int32) : entryFrame m #[(.ref x0), (.int x1)] 2 = mkF m 0 #[rv x0, iv x1] [] := by first | (simp [entryFrame, mkF, argsToLocals, Value.category]; done) | rfl
set_option maxRecDepth 65536 in
set_option maxHeartbeats 40000000 in
theorem rmGC2_1 (l : Launch) (Z : State) (a0 : Array Value) (hw : ∀ d ∈ tables_1, d.before a0 Z = true) (ws : List Jvm.Cond) (u0 : Addr) (kB : ClassId) (d0 : Int32) (d1 : Int32) (d2 : Int32) (d3 : Int32) (h0 : Heap) (n0 : Nat) (Z0 : n0 ≤ h0.size) (P_S_StringUTF16__assertionsDisabled : Sta Z h0 "java/lang/StringUTF16" "$assertionsDisabled" "Z" (.int (1 : Int32))) (P_S_StringUTF16_HI_BYTE_SHIFT : Sta Z h0 "java/lang/StringUTF16" "HI_BYTE_SHIFT" "I" (.int (0 : Int32))) (P_S_StringUTF16_LO_BYTE_SHIFT : Sta Z h0 "java/lang/StringUTF16" "LO_BYTE_SHIFT" "I" (.int (8 : Int32))) (P_V_u0 : Arv Z h0 u0 kB .byte (4 : Int32) [(.int d0), (.int d1), (.int d2), (.int d3)] (.int (0 : Int32))) :
    MetFree l own_y3 (head1 (Jvm.Cond.code own_y3 jdk_52_method_5_code 2 (some .char) :: ws) ({ frames := 0, cells := 0, slots := 0, locals := 0 } : Room)) (fun a U => a = #[(.ref u0), (.int (1 : Int32))] ∧ Z.Warmed39 U.vm ∧ U.heap = h0) (fun _ _ _ _ _ => True) (fun _ U o U' => ∃ v L, o = .returned v ∧ own_QP (some (.int (own_gc d2 d3))) h0 n0 v U'.heap L ∧ FrameEnd U o U' L ({ frames := 0, cells := 0, slots := 0, locals := 0 } : Room).cells ({ frames := 0, cells := 0, slots := 0, locals := 0 } : Room).slots) := by
  refine MetFree.of_bodySF (plainFor_of_name pn_11) hisR ?_
  intro p e s m args below meth c s₁ Bd hml0 hP hK
  obtain ⟨rfl, hZ, hh⟩ := hP
  have hx := Bd.exec
  have hby := Bd.bytes
  have hml : c.maxLocals = 2 := hml0
  have hown : s.vm.findClass "java/lang/StringUTF16" = some m.cls := findClass_of_methodNamed Bd.named
  have hnm := (name_of_methodNamed Bd.named Bd.method).1
  have X0 : Stand p l e ({ frames := 0, cells := 0, slots := 0, locals := 0 } : Room) s m #[(.ref u0), (.int (1 : Int32))] below meth c s₁ [] 0 0 := Stand.of_body Bd
  have e0 : s₁.heap = h0 := by rw [← hh, Bd.state]; rfl
  have N0 := Fr.nil n0
  have pre0 : ∀ t, Steps p.tables e below (s₁.setTop (mkF m 0 #[rv u0, iv (1 : Int32)] [])) t → Steps p.tables e below (s₁.setTop (entryFrame m #[(.ref u0), (.int (1 : Int32))] 2)) t := fun t k => castTop (ef_rmGC2_1 m u0 (1 : Int32)) k
  obtain ⟨T1, X1, e1, st1⟩ := getS2 X0 hx hZ hown (host := "") (Or.inl (own_g hw 42 rfl)) Via.refl e0 P_S_StringUTF16__assertionsDisabled (g := (mkF m 0 #[rv u0, iv (1 : Int32)] [])) rfl (hb hby d11_0)
  obtain ⟨cl2, Ar2, qq2, S2, N2_, H2, G2⟩ := id P_V_u0
  have hin2 : ¬ ((2 : Int32) < 0 ∨ cl2.slots.size ≤ ((2 : Int32)).toNatClampNeg) := inb_of S2 ⟨by decide, by decide⟩
  have hat2 : cl2.slots[((2 : Int32)).toNatClampNeg]? = some (.int d2) := H2.at hin2 rfl
  obtain ⟨T3, X3, e3, st3⟩ := getS2 X1 hx hZ hown (host := "") (Or.inl (own_g hw 43 rfl)) Via.refl e1 P_S_StringUTF16_HI_BYTE_SHIFT (g := (mkF m 42 #[rv u0, iv (3 : Int32)] [(.int (d2 &&& (255 : Int32)))])) rfl (hb hby d11_42)
  obtain ⟨cl4, Ar4, qq4, S4, N4_, H4, G4⟩ := id P_V_u0
  have hin4 : ¬ ((3 : Int32) < 0 ∨ cl4.slots.size ≤ ((3 : Int32)).toNatClampNeg) := inb_of S4 ⟨by decide, by decide⟩
  have hat4 : cl4.slots[((3 : Int32)).toNatClampNeg]? = some (.int d3) := H4.at hin4 rfl
  obtain ⟨T5, X5, e5, st5⟩ := getS2 X3 hx hZ hown (host := "") (Or.inl (own_g hw 44 rfl)) Via.refl e3 P_S_StringUTF16_LO_BYTE_SHIFT (g := (mkF m 53 #[rv u0, iv (3 : Int32)] [(.int (d3 &&& (255 : Int32))), (.int ((d2 &&& (255 : Int32)) <<< ((0 : Int32) &&& 31)))])) rfl (hb hby d11_53)
  obtain ⟨fs, hr, hrun, hended, hW, hsame⟩ := X5.leave (v := some (.int (nar .char ((((d2 &&& (255 : Int32)) <<< ((0 : Int32) &&& 31)) ||| ((d3 &&& (255 : Int32)) <<< ((8 : Int32) &&& 31))).toUInt32.toUInt16.toUInt32.toInt32)))) (fun h => by rw [Bd.returns] at h; cases h)
  refine ⟨_, _, pre0 _ ?_, hrun, hended, _, _, rfl, ?_, ⟨_, rfl⟩, hW, hsame.mono (by decide) (by decide)⟩
  · refine st1 _ ?_
    refine XS.ifYes X1.here hx rfl (pc0 := 3) (pc' := 28) rfl (hb hby d11_3) rfl ((if0 _ _).trans (feq (by decide : ¬ ((1 : Int32) = (0 : Int32)))).2) (by decide) (by decide) ?_
    refine XS.iloadN X1.here hx rfl (hb hby d11_28) rfl ?_
    refine XS.iconst X1.here hx rfl (hb hby d11_29) ?_
    refine XS.ishl X1.here hx rfl (hb hby d11_30) rfl ?_
    show Steps _ _ _ (T1.setTop (mkF m 31 #[rv u0, iv (1 : Int32)] [(.int ((1 : Int32) <<< ((1 : Int32) &&& 31)))])) _
    rw [(by decide : ((1 : Int32) <<< ((1 : Int32) &&& 31)) = (2 : Int32))]
    refine XS.istoreN X1.here hx rfl (hb hby d11_31) rfl (l' := #[rv u0, iv (2 : Int32)]) rfl ?_
    refine XS.aloadN X1.here hx rfl (hb hby d11_32) rfl rfl ?_
    refine XS.iloadN X1.here hx rfl (hb hby d11_33) rfl ?_
    refine XS.iinc X1.here hx rfl (hb hby d11_34) rfl (l' := #[rv u0, iv (3 : Int32)]) rfl ?_
    refine X1.baloadBytes hx (j := (2 : Int32)) (v := (.int d2)) (by rw [e1]; exact Ar2.1) (State.isArrayOf_alike hZ.alike Ar2.2.1) Ar2.2.2 hin2 hat2 (g := (mkF m 37 #[rv u0, iv (3 : Int32)] [(.int (2 : Int32)), (.ref u0)])) rfl rfl (hb hby d11_37) _ ?_
    refine XS.sipush X1.here hx rfl (hb hby d11_38) ?_
    refine XS.iand X1.here hx rfl (hb hby d11_41) rfl ?_
    refine st3 _ ?_
    refine XS.ishl X3.here hx rfl (hb hby d11_45) rfl ?_
    refine XS.aloadN X3.here hx rfl (hb hby d11_46) rfl rfl ?_
    refine XS.iloadN X3.here hx rfl (hb hby d11_47) rfl ?_
    refine X3.baloadBytes hx (j := (3 : Int32)) (v := (.int d3)) (by rw [e3]; exact Ar4.1) (State.isArrayOf_alike hZ.alike Ar4.2.1) Ar4.2.2 hin4 hat4 (g := (mkF m 48 #[rv u0, iv (3 : Int32)] [(.int (3 : Int32)), (.ref u0), (.int ((d2 &&& (255 : Int32)) <<< ((0 : Int32) &&& 31)))])) rfl rfl (hb hby d11_48) _ ?_
    refine XS.sipush X3.here hx rfl (hb hby d11_49) ?_
    refine XS.iand X3.here hx rfl (hb hby d11_52) rfl ?_
    refine st5 _ ?_
    refine XS.ishl X5.here hx rfl (hb hby d11_56) rfl ?_
    refine XS.ior X5.here hx rfl (hb hby d11_57) rfl ?_
    refine XS.i2c X5.here hx rfl (hb hby d11_58) rfl ?_
    show Steps _ _ _ (T5.setTop (mkF m 59 #[rv u0, iv (3 : Int32)] [(.int ((((d2 &&& (255 : Int32)) <<< ((0 : Int32) &&& 31)) ||| ((d3 &&& (255 : Int32)) <<< ((8 : Int32) &&& 31))).toUInt32.toUInt16.toUInt32.toInt32))])) _
    exact retN X5 hx (t := .char) Bd.returns (by simp) (hb hby d11_59) hr
  · show own_QP (some (.int (own_gc d2 d3))) h0 n0 _ T5.heap _
    rw [e5]
    exact ⟨(by first | rfl | simp []), N0, rfl⟩

theorem ef_rmTB2 (m : MethodId) (x0 : Addr) (x1 : Int32) (x2 : Int32) : entryFrame m #[(.ref x0), (.int x1), (.int x2)] 5 = mkF m 0 #[rv x0, iv x1, iv x2, .unset, .unset] [] := by first | (simp [entryFrame, mkF, argsToLocals, Value.category]; done) | rfl
def Q_rmTB2 (Z : State) (u0 : Addr) (kA : ClassId) (c0 : Int32) (c1 : Int32) (h0 : Heap) (n0 : Nat) (v : Option Value) (h : Heap) (L : List Loc) : Prop := ∃ (t : Addr), ∃ (kt : ClassId), (v = (some (.ref t)) ∧ Fr n0 L ∧ Keep h0 h [] ∧ h0.size ≤ t ∧ Arv Z h t kt .byte (4 : Int32) [(.int (((c0 >>> ((0 : Int32) &&& 31)).toInt8.toInt32).toInt8.toInt32)), (.int (((c0 >>> ((8 : Int32) &&& 31)).toInt8.toInt32).toInt8.toInt32)), (.int (((c1 >>> ((0 : Int32) &&& 31)).toInt8.toInt32).toInt8.toInt32)), (.int (((c1 >>> ((8 : Int32) &&& 31)).toInt8.toInt32).toInt8.toInt32))] (.int (0 : Int32)))
set_option maxRecDepth 65536 in
set_option maxHeartbeats 40000000 in
theorem rmTB2 (l : Launch) (Z : State) (a0 : Array Value) (hw : ∀ d ∈ tables_1, d.before a0 Z = true) (ws : List Jvm.Cond) (u0 : Addr) (kA : ClassId) (c0 : Int32) (c1 : Int32) (h0 : Heap) (n0 : Nat) (Z0 : n0 ≤ h0.size) (P_S_StringUTF16__assertionsDisabled : Sta Z h0 "java/lang/StringUTF16" "$assertionsDisabled" "Z" (.int (1 : Int32))) (P_S_StringUTF16_HI_BYTE_SHIFT : Sta Z h0 "java/lang/StringUTF16" "HI_BYTE_SHIFT" "I" (.int (0 : Int32))) (P_S_StringUTF16_LO_BYTE_SHIFT : Sta Z h0 "java/lang/StringUTF16" "LO_BYTE_SHIFT" "I" (.int (8 : Int32))) (P_V_u0 : Arv Z h0 u0 kA .char (2 : Int32) [(.int c0), (.int c1)] (.int (0 : Int32))) :
    MetFree l own_y4 (head1 (Jvm.Cond.code own_y4 jdk_52_method_14_code 5 (some (.array .byte)) :: ws) ({ frames := 2, cells := 1, slots := 4, locals := 24 } : Room)) (fun a U => a = #[(.ref u0), (.int (0 : Int32)), (.int (2 : Int32))] ∧ Z.Warmed39 U.vm ∧ U.heap = h0) (fun _ _ _ _ _ => True) (fun _ U o U' => ∃ v L, o = .returned v ∧ Q_rmTB2 Z u0 kA c0 c1 h0 n0 v U'.heap L ∧ FrameEnd U o U' L ({ frames := 2, cells := 1, slots := 4, locals := 24 } : Room).cells ({ frames := 2, cells := 1, slots := 4, locals := 24 } : Room).slots) := by
  refine MetFree.of_bodySF (plainFor_of_name pn_7) hisR ?_
  intro p e s m args below meth c s₁ Bd hml0 hP hK
  obtain ⟨rfl, hZ, hh⟩ := hP
  have hx := Bd.exec
  have hby := Bd.bytes
  have hml : c.maxLocals = 5 := hml0
  have hown : s.vm.findClass "java/lang/StringUTF16" = some m.cls := findClass_of_methodNamed Bd.named
  have hnm := (name_of_methodNamed Bd.named Bd.method).1
  have X0 : Stand p l e ({ frames := 2, cells := 1, slots := 4, locals := 24 } : Room) s m #[(.ref u0), (.int (0 : Int32)), (.int (2 : Int32))] below meth c s₁ [] 0 0 := Stand.of_body Bd
  have e0 : s₁.heap = h0 := by rw [← hh, Bd.state]; rfl
  have N0 := Fr.nil n0
  have pre0 : ∀ t, Steps p.tables e below (s₁.setTop (mkF m 0 #[rv u0, iv (0 : Int32), iv (2 : Int32), .unset, .unset] [])) t → Steps p.tables e below (s₁.setTop (entryFrame m #[(.ref u0), (.int (0 : Int32)), (.int (2 : Int32))] 5)) t := fun t k => castTop (ef_rmTB2 m u0 (0 : Int32) (2 : Int32)) k
  obtain ⟨_, _, ⟨T1, L1, k1, n1⟩, -, X1, ⟨Lc1, hQ1, l1, y1, z1⟩, st1⟩ := Jvm.LawKit.callS X0 hx (y := own_y1) hown (mvT hZ (own_g hw 32 rfl)) (mvT hZ (own_g hw 33 rfl)) (mvT hZ (own_g hw 23 rfl)) (mvT hZ (own_g hw 34 rfl)) (by decide) (backOf (W := 0) (rmNF2 l Z a0 hw []  h0 n0 Z0 ) hZ (own_g hw 34 rfl) (own_g hw 23 rfl) (by decide) (by decide)) (g := (mkF m 1 #[rv u0, iv (0 : Int32), iv (2 : Int32), .unset, .unset] [(.int (2 : Int32))])) rfl (by rw [hml]; rfl) (argsL := [(.int (2 : Int32))]) (rest := []) (lenOf pd__I__B rfl) rfl (by show 2 * 0 + _ ≤ _; exact Nat.le_of_eq rfl) (hb hby d7_1) (fun _ _ => ⟨rfl, e0, (by decide : 0 + 1 ≤ _), (by decide : 0 + 4 ≤ _)⟩)
  dsimp only [Pt.U, Pt.locs, Pt.cells, Pt.slots] at X1 l1 y1 z1 st1 hQ1
  subst l1 y1 z1
  obtain ⟨t_1, kt_1, rfl, N1q, K1, sx1_0, f2⟩ := hQ1
  have ot_1 : n0 ≤ t_1 := Nat.le_trans Z0 sx1_0
  have zt_1 : h0.size ≤ t_1 := Nat.le_trans (Keep.refl h0 []).1 sx1_0
  have ne3 : u0 ≠ t_1 := Nat.ne_of_lt (Nat.lt_of_lt_of_le P_V_u0.lt sx1_0)
  have KK1 : Keep h0 T1.heap [] := Keep.trans (Keep.refl h0 []) K1 all0
  have N1 := Fr.app N0 N1q
  have f4 : Arv Z T1.heap u0 kA .char (2 : Int32) [(.int c0), (.int c1)] (.int (0 : Int32)) := (P_V_u0.keep K1 nin0)
  obtain ⟨cl5, Ar5, qq5, S5, N5_, H5, G5⟩ := id f4
  have hin5 : ¬ ((0 : Int32) < 0 ∨ cl5.slots.size ≤ ((0 : Int32)).toNatClampNeg) := inb_of S5 ⟨by decide, by decide⟩
  have hat5 : cl5.slots[((0 : Int32)).toNatClampNeg]? = some (.int c0) := H5.at hin5 rfl
  have f6 : Sta Z T1.heap "java/lang/StringUTF16" "$assertionsDisabled" "Z" (.int (1 : Int32)) := (own_staKeep P_S_StringUTF16__assertionsDisabled K1 ns0)
  have f7 : Sta Z T1.heap "java/lang/StringUTF16" "HI_BYTE_SHIFT" "I" (.int (0 : Int32)) := (own_staKeep P_S_StringUTF16_HI_BYTE_SHIFT K1 ns0)
  have f8 : Sta Z T1.heap "java/lang/StringUTF16" "LO_BYTE_SHIFT" "I" (.int (8 : Int32)) := (own_staKeep P_S_StringUTF16_LO_BYTE_SHIFT K1 ns0)
  have f9 : n0 ≤ T1.heap.size := (Nat.le_trans Z0 K1.1)
  obtain ⟨_, _, ⟨T10, L10, k10, n10⟩, -, X10, ⟨Lc10, hQ10, l10, y10, z10⟩, st10⟩ := Jvm.LawKit.callS X1 hx (y := own_y2) hown (mvT hZ (own_g hw 39 rfl)) (mvT hZ (own_g hw 40 rfl)) (mvT hZ (own_g hw 23 rfl)) (mvT hZ (own_g hw 41 rfl)) (by decide) (backOf (W := 0) (rmPC2_0 l Z a0 hw [] t_1 c0 kt_1 (0 : Int32) (0 : Int32) (0 : Int32) (0 : Int32) T1.heap n0 f9 f6 f7 f8 f2 ot_1) hZ (own_g hw 41 rfl) (own_g hw 23 rfl) (by decide) (by decide)) (g := (mkF m 20 #[rv u0, iv (0 : Int32), iv (2 : Int32), rv t_1, iv (0 : Int32)] [(.int c0), (.int (0 : Int32)), (.ref t_1)])) rfl (by rw [hml]; rfl) (argsL := [(.ref t_1), (.int (0 : Int32)), (.int c0)]) (rest := []) (lenOf pd___BII_V rfl) rfl (by show 2 * 0 + _ ≤ _; exact Nat.le_of_eq rfl) (hb hby d7_20) (fun _ _ => ⟨rfl, rfl, (by decide : 1 + 0 ≤ _), (by decide : 4 + 0 ≤ _)⟩)
  dsimp only [Pt.U, Pt.locs, Pt.cells, Pt.slots] at X10 l10 y10 z10 st10 hQ10
  subst l10 y10 z10
  obtain ⟨rfl, N10q, K10, f11⟩ := hQ10
  have KK10 : Keep h0 T10.heap [] := Keep.trans KK1 K10 (allS (Or.inr zt_1) all0)
  have N10 := Fr.app N1 N10q
  have f12 : Arv Z T10.heap u0 kA .char (2 : Int32) [(.int c0), (.int c1)] (.int (0 : Int32)) := (f4.keep K10 (ninS ne3 nin0))
  obtain ⟨cl13, Ar13, qq13, S13, N13_, H13, G13⟩ := id f12
  have hin13 : ¬ ((1 : Int32) < 0 ∨ cl13.slots.size ≤ ((1 : Int32)).toNatClampNeg) := inb_of S13 ⟨by decide, by decide⟩
  have hat13 : cl13.slots[((1 : Int32)).toNatClampNeg]? = some (.int c1) := H13.at hin13 rfl
  have f14 : Sta Z T10.heap "java/lang/StringUTF16" "$assertionsDisabled" "Z" (.int (1 : Int32)) := (own_staKeep f6 K10 (nsS f2.nostat ns0))
  have f15 : Sta Z T10.heap "java/lang/StringUTF16" "HI_BYTE_SHIFT" "I" (.int (0 : Int32)) := (own_staKeep f7 K10 (nsS f2.nostat ns0))
  have f16 : Sta Z T10.heap "java/lang/StringUTF16" "LO_BYTE_SHIFT" "I" (.int (8 : Int32)) := (own_staKeep f8 K10 (nsS f2.nostat ns0))
  have f17 : n0 ≤ T10.heap.size := (Nat.le_trans f9 K10.1)
  obtain ⟨_, _, ⟨T18, L18, k18, n18⟩, -, X18, ⟨Lc18, hQ18, l18, y18, z18⟩, st18⟩ := Jvm.LawKit.callS X10 hx (y := own_y2) hown (mvT hZ (own_g hw 39 rfl)) (mvT hZ (own_g hw 40 rfl)) (mvT hZ (own_g hw 23 rfl)) (mvT hZ (own_g hw 41 rfl)) (by decide) (backOf (W := 0) (rmPC2_1 l Z a0 hw [] t_1 c1 kt_1 (((c0 >>> ((0 : Int32) &&& 31)).toInt8.toInt32).toInt8.toInt32) (((c0 >>> ((8 : Int32) &&& 31)).toInt8.toInt32).toInt8.toInt32) (0 : Int32) (0 : Int32) T10.heap n0 f17 f14 f15 f16 f11 ot_1) hZ (own_g hw 41 rfl) (own_g hw 23 rfl) (by decide) (by decide)) (g := (mkF m 20 #[rv u0, iv (1 : Int32), iv (2 : Int32), rv t_1, iv (1 : Int32)] [(.int c1), (.int (1 : Int32)), (.ref t_1)])) rfl (by rw [hml]; rfl) (argsL := [(.ref t_1), (.int (1 : Int32)), (.int c1)]) (rest := []) (lenOf pd___BII_V rfl) rfl (by show 2 * 0 + _ ≤ _; exact Nat.le_of_eq rfl) (hb hby d7_20) (fun _ _ => ⟨rfl, rfl, (by decide : 1 + 0 ≤ _), (by decide : 4 + 0 ≤ _)⟩)
  dsimp only [Pt.U, Pt.locs, Pt.cells, Pt.slots] at X18 l18 y18 z18 st18 hQ18
  subst l18 y18 z18
  obtain ⟨rfl, N18q, K18, f19⟩ := hQ18
  have KK18 : Keep h0 T18.heap [] := Keep.trans KK10 K18 (allS (Or.inr zt_1) all0)
  have N18 := Fr.app N10 N18q
  obtain ⟨fs, hr, hrun, hended, hW, hsame⟩ := X18.leave (v := some (.ref t_1)) (fun h => by rw [Bd.returns] at h; cases h)
  refine ⟨_, _, pre0 _ ?_, hrun, hended, _, _, rfl, ?_, ⟨_, rfl⟩, hW, hsame.mono (by decide) (by decide)⟩
  · refine XS.iloadN X0.here hx rfl (hb hby d7_0) rfl ?_
    show Steps _ _ _ (s₁.setTop (mkF m 1 #[rv u0, iv (0 : Int32), iv (2 : Int32), .unset, .unset] [(.int (2 : Int32))])) _
    refine st1 _ ?_
    refine XS.astoreN X1.here hx rfl (hb hby d7_4) rfl rfl (l' := #[rv u0, iv (0 : Int32), iv (2 : Int32), rv t_1, .unset]) rfl ?_
    refine XS.iconst X1.here hx rfl (hb hby d7_5) ?_
    refine XS.istore X1.here hx rfl (hb hby d7_6) rfl (l' := #[rv u0, iv (0 : Int32), iv (2 : Int32), rv t_1, iv (0 : Int32)]) rfl ?_
    refine XS.iload X1.here hx rfl (hb hby d7_8) rfl ?_
    refine XS.iloadN X1.here hx rfl (hb hby d7_10) rfl ?_
    refine XS.icmpNo X1.here hx rfl (hb hby d7_11) rfl (tlt (by decide : (0 : Int32) < (2 : Int32))).2.1 ?_
    refine XS.aloadN X1.here hx rfl (hb hby d7_14) rfl rfl ?_
    refine XS.iload X1.here hx rfl (hb hby d7_15) rfl ?_
    refine XS.aloadN X1.here hx rfl (hb hby d7_17) rfl rfl ?_
    refine XS.iloadN X1.here hx rfl (hb hby d7_18) rfl ?_
    refine X1.caload hx (j := (0 : Int32)) (v := (.int c0)) Ar5.1 (State.isArrayOf_alike hZ.alike Ar5.2.1) Ar5.2.2 hin5 hat5 (g := (mkF m 19 #[rv u0, iv (0 : Int32), iv (2 : Int32), rv t_1, iv (0 : Int32)] [(.int (0 : Int32)), (.ref u0), (.int (0 : Int32)), (.ref t_1)])) rfl rfl (hb hby d7_19) _ ?_
    show Steps _ _ _ (T1.setTop (mkF m 20 #[rv u0, iv (0 : Int32), iv (2 : Int32), rv t_1, iv (0 : Int32)] [(.int c0), (.int (0 : Int32)), (.ref t_1)])) _
    refine st10 _ ?_
    refine XS.iinc X10.here hx rfl (hb hby d7_23) rfl (l' := #[rv u0, iv (1 : Int32), iv (2 : Int32), rv t_1, iv (0 : Int32)]) rfl ?_
    refine XS.iinc X10.here hx rfl (hb hby d7_26) rfl (l' := #[rv u0, iv (1 : Int32), iv (2 : Int32), rv t_1, iv (1 : Int32)]) rfl ?_
    refine XS.goto X10.here hx rfl (pc0 := 29) (pc' := 8) rfl (hb hby d7_29) (by decide) (by decide) ?_
    refine XS.iload X10.here hx rfl (hb hby d7_8) rfl ?_
    refine XS.iloadN X10.here hx rfl (hb hby d7_10) rfl ?_
    refine XS.icmpNo X10.here hx rfl (hb hby d7_11) rfl (tlt (by decide : (1 : Int32) < (2 : Int32))).2.1 ?_
    refine XS.aloadN X10.here hx rfl (hb hby d7_14) rfl rfl ?_
    refine XS.iload X10.here hx rfl (hb hby d7_15) rfl ?_
    refine XS.aloadN X10.here hx rfl (hb hby d7_17) rfl rfl ?_
    refine XS.iloadN X10.here hx rfl (hb hby d7_18) rfl ?_
    refine X10.caload hx (j := (1 : Int32)) (v := (.int c1)) Ar13.1 (State.isArrayOf_alike hZ.alike Ar13.2.1) Ar13.2.2 hin13 hat13 (g := (mkF m 19 #[rv u0, iv (1 : Int32), iv (2 : Int32), rv t_1, iv (1 : Int32)] [(.int (1 : Int32)), (.ref u0), (.int (1 : Int32)), (.ref t_1)])) rfl rfl (hb hby d7_19) _ ?_
    show Steps _ _ _ (T10.setTop (mkF m 20 #[rv u0, iv (1 : Int32), iv (2 : Int32), rv t_1, iv (1 : Int32)] [(.int c1), (.int (1 : Int32)), (.ref t_1)])) _
    refine st18 _ ?_
    show Steps _ _ _ (T18.setTop (mkF m 23 #[rv u0, iv (1 : Int32), iv (2 : Int32), rv t_1, iv (1 : Int32)] [])) _
    refine XS.iinc X18.here hx rfl (hb hby d7_23) rfl (l' := #[rv u0, iv (2 : Int32), iv (2 : Int32), rv t_1, iv (1 : Int32)]) rfl ?_
    refine XS.iinc X18.here hx rfl (hb hby d7_26) rfl (l' := #[rv u0, iv (2 : Int32), iv (2 : Int32), rv t_1, iv (2 : Int32)]) rfl ?_
    refine XS.goto X18.here hx rfl (pc0 := 29) (pc' := 8) rfl (hb hby d7_29) (by decide) (by decide) ?_
    refine XS.iload X18.here hx rfl (hb hby d7_8) rfl ?_
    refine XS.iloadN X18.here hx rfl (hb hby d7_10) rfl ?_
    refine XS.icmpYes X18.here hx rfl (pc0 := 11) (pc' := 32) rfl (hb hby d7_11) rfl (flt (by decide : ¬ ((2 : Int32) < (2 : Int32)))).2.1 (by decide) (by decide) ?_
    refine XS.aloadN X18.here hx rfl (hb hby d7_32) rfl rfl ?_
    show Steps _ _ _ (T18.setTop (mkF m 33 #[rv u0, iv (2 : Int32), iv (2 : Int32), rv t_1, iv (2 : Int32)] [(.ref t_1)])) _
    exact retOut X18 hx Bd.returns rfl (Or.inr (Or.inr (Or.inr (Or.inr ⟨rfl, rfl, rfl⟩)))) (hb hby d7_33) hr
  · show Q_rmTB2 Z u0 kA c0 c1 h0 n0 _ T18.heap _
    exact ⟨t_1, kt_1, rfl, N18, KK18, zt_1, f19⟩

theorem ef_rmC5_2_0 (m : MethodId) (x0 : Addr) (x1 : Int32) (x2 : Addr) (x3 : Int32) (x4 : Int32) : entryFrame m #[(.ref x0), (.int x1), (.ref x2), (.int x3), (.int x4)] 7 = mkF m 0 #[rv x0, iv x1, rv x2, iv x3, iv x4, .unset, .unset] [] := by first | (simp [entryFrame, mkF, argsToLocals, Value.category]; done) | rfl
def Q_rmC5_2_0 (Z : State) (u0 : Addr) (u2 : Addr) (kA : ClassId) (c0 : Int32) (c1 : Int32) (kB : ClassId) (d0 : Int32) (d1 : Int32) (h0 : Heap) (n0 : Nat) (v : Option Value) (h : Heap) (L : List Loc) : Prop := (v = (some (.int (0 : Int32))) ∧ Fr n0 L ∧ Keep h0 h [u2] ∧ Arv Z h u2 kB .byte (2 : Int32) [(.int d0), (.int d1)] (.int (0 : Int32)))
set_option maxRecDepth 65536 in
set_option maxHeartbeats 40000000 in
theorem rmC5_2_0 (l : Launch) (Z : State) (a0 : Array Value) (hw : ∀ d ∈ tables_1, d.before a0 Z = true) (ws : List Jvm.Cond) (u0 : Addr) (u2 : Addr) (kA : ClassId) (c0 : Int32) (c1 : Int32) (kB : ClassId) (d0 : Int32) (d1 : Int32) (h0 : Heap) (n0 : Nat) (Z0 : n0 ≤ h0.size) (P_V_u0 : Arv Z h0 u0 kA .char (2 : Int32) [(.int c0), (.int c1)] (.int (0 : Int32))) (P_V_u2 : Arv Z h0 u2 kB .byte (2 : Int32) [(.int d0), (.int d1)] (.int (0 : Int32))) (neA : u0 ≠ u2) (hp0 : (255 : Int32) < c0) (g_u2 : n0 ≤ u2) :
    MetFree l own_y5 (head1 (Jvm.Cond.code own_y5 jdk_52_method_21_code 7 (some .int) :: ws) ({ frames := 0, cells := 0, slots := 0, locals := 0 } : Room)) (fun a U => a = #[(.ref u0), (.int (0 : Int32)), (.ref u2), (.int (0 : Int32)), (.int (2 : Int32))] ∧ Z.Warmed39 U.vm ∧ U.heap = h0) (fun _ _ _ _ _ => True) (fun _ U o U' => ∃ v L, o = .returned v ∧ Q_rmC5_2_0 Z u0 u2 kA c0 c1 kB d0 d1 h0 n0 v U'.heap L ∧ FrameEnd U o U' L ({ frames := 0, cells := 0, slots := 0, locals := 0 } : Room).cells ({ frames := 0, cells := 0, slots := 0, locals := 0 } : Room).slots) := by
  refine MetFree.of_bodySF (plainFor_of_name pn_6) hisR ?_
  intro p e s m args below meth c s₁ Bd hml0 hP hK
  obtain ⟨rfl, hZ, hh⟩ := hP
  have hx := Bd.exec
  have hby := Bd.bytes
  have hml : c.maxLocals = 7 := hml0
  have hown : s.vm.findClass "java/lang/StringUTF16" = some m.cls := findClass_of_methodNamed Bd.named
  have hnm := (name_of_methodNamed Bd.named Bd.method).1
  have X0 : Stand p l e ({ frames := 0, cells := 0, slots := 0, locals := 0 } : Room) s m #[(.ref u0), (.int (0 : Int32)), (.ref u2), (.int (0 : Int32)), (.int (2 : Int32))] below meth c s₁ [] 0 0 := Stand.of_body Bd
  have e0 : s₁.heap = h0 := by rw [← hh, Bd.state]; rfl
  have N0 := Fr.nil n0
  have pre0 : ∀ t, Steps p.tables e below (s₁.setTop (mkF m 0 #[rv u0, iv (0 : Int32), rv u2, iv (0 : Int32), iv (2 : Int32), .unset, .unset] [])) t → Steps p.tables e below (s₁.setTop (entryFrame m #[(.ref u0), (.int (0 : Int32)), (.ref u2), (.int (0 : Int32)), (.int (2 : Int32))] 7)) t := fun t k => castTop (ef_rmC5_2_0 m u0 (0 : Int32) u2 (0 : Int32) (2 : Int32)) k
  obtain ⟨cl1, Ar1, qq1, S1, N1_, H1, G1⟩ := id P_V_u0
  have hin1 : ¬ ((0 : Int32) < 0 ∨ cl1.slots.size ≤ ((0 : Int32)).toNatClampNeg) := inb_of S1 ⟨by decide, by decide⟩
  have hat1 : cl1.slots[((0 : Int32)).toNatClampNeg]? = some (.int c0) := H1.at hin1 rfl
  obtain ⟨fs, hr, hrun, hended, hW, hsame⟩ := X0.leave (v := some (.int (0 : Int32))) (fun h => by rw [Bd.returns] at h; cases h)
  refine ⟨_, _, pre0 _ ?_, hrun, hended, _, _, rfl, ?_, ⟨_, rfl⟩, hW, hsame.mono (by decide) (by decide)⟩
  · refine XS.iconst X0.here hx rfl (hb hby d6_0) ?_
    refine XS.istore X0.here hx rfl (hb hby d6_1) rfl (l' := #[rv u0, iv (0 : Int32), rv u2, iv (0 : Int32), iv (2 : Int32), iv (0 : Int32), .unset]) rfl ?_
    refine XS.iload X0.here hx rfl (hb hby d6_3) rfl ?_
    refine XS.iload X0.here hx rfl (hb hby d6_5) rfl ?_
    refine XS.icmpNo X0.here hx rfl (hb hby d6_7) rfl (tlt (by decide : (0 : Int32) < (2 : Int32))).2.1 ?_
    refine XS.aloadN X0.here hx rfl (hb hby d6_10) rfl rfl ?_
    refine XS.iloadN X0.here hx rfl (hb hby d6_11) rfl ?_
    refine X0.caload hx (j := (0 : Int32)) (v := (.int c0)) (by rw [e0]; exact Ar1.1) (State.isArrayOf_alike hZ.alike Ar1.2.1) Ar1.2.2 hin1 hat1 (g := (mkF m 12 #[rv u0, iv (0 : Int32), rv u2, iv (0 : Int32), iv (2 : Int32), iv (0 : Int32), .unset] [(.int (0 : Int32)), (.ref u0)])) rfl rfl (hb hby d6_12) _ ?_
    refine XS.istore X0.here hx rfl (hb hby d6_13) rfl (l' := #[rv u0, iv (0 : Int32), rv u2, iv (0 : Int32), iv (2 : Int32), iv (0 : Int32), iv c0]) rfl ?_
    refine XS.iload X0.here hx rfl (hb hby d6_15) rfl ?_
    refine XS.sipush X0.here hx rfl (hb hby d6_17) ?_
    refine XS.icmpNo X0.here hx rfl (hb hby d6_20) rfl (tlt hp0).2.2.2 ?_
    refine XS.iload X0.here hx rfl (hb hby d6_23) rfl ?_
    show Steps _ _ _ (s₁.setTop (mkF m 25 #[rv u0, iv (0 : Int32), rv u2, iv (0 : Int32), iv (2 : Int32), iv (0 : Int32), iv c0] [(.int (0 : Int32))])) _
    exact retI X0 hx Bd.returns (hb hby d6_25) hr
  · show Q_rmC5_2_0 Z u0 u2 kA c0 c1 kB d0 d1 h0 n0 _ s₁.heap _
    rw [e0]
    exact ⟨rfl, N0, (Keep.refl h0 [u2]), P_V_u2⟩

theorem ef_rmC5_2_1 (m : MethodId) (x0 : Addr) (x1 : Int32) (x2 : Addr) (x3 : Int32) (x4 : Int32) : entryFrame m #[(.ref x0), (.int x1), (.ref x2), (.int x3), (.int x4)] 7 = mkF m 0 #[rv x0, iv x1, rv x2, iv x3, iv x4, .unset, .unset] [] := by first | (simp [entryFrame, mkF, argsToLocals, Value.category]; done) | rfl
def Q_rmC5_2_1 (Z : State) (u0 : Addr) (u2 : Addr) (kA : ClassId) (c0 : Int32) (c1 : Int32) (kB : ClassId) (d0 : Int32) (d1 : Int32) (h0 : Heap) (n0 : Nat) (v : Option Value) (h : Heap) (L : List Loc) : Prop := (v = (some (.int (1 : Int32))) ∧ Fr n0 L ∧ Keep h0 h [u2] ∧ Arv Z h u2 kB .byte (2 : Int32) [(.int ((c0.toInt8.toInt32).toInt8.toInt32)), (.int d1)] (.int (0 : Int32)))
set_option maxRecDepth 65536 in
set_option maxHeartbeats 40000000 in
theorem rmC5_2_1 (l : Launch) (Z : State) (a0 : Array Value) (hw : ∀ d ∈ tables_1, d.before a0 Z = true) (ws : List Jvm.Cond) (u0 : Addr) (u2 : Addr) (kA : ClassId) (c0 : Int32) (c1 : Int32) (kB : ClassId) (d0 : Int32) (d1 : Int32) (h0 : Heap) (n0 : Nat) (Z0 : n0 ≤ h0.size) (P_V_u0 : Arv Z h0 u0 kA .char (2 : Int32) [(.int c0), (.int c1)] (.int (0 : Int32))) (P_V_u2 : Arv Z h0 u2 kB .byte (2 : Int32) [(.int d0), (.int d1)] (.int (0 : Int32))) (neA : u0 ≠ u2) (hp0 : ¬ ((255 : Int32) < c0)) (hp1 : (255 : Int32) < c1) (g_u2 : n0 ≤ u2) :
    MetFree l own_y5 (head1 (Jvm.Cond.code own_y5 jdk_52_method_21_code 7 (some .int) :: ws) ({ frames := 0, cells := 0, slots := 0, locals := 0 } : Room)) (fun a U => a = #[(.ref u0), (.int (0 : Int32)), (.ref u2), (.int (0 : Int32)), (.int (2 : Int32))] ∧ Z.Warmed39 U.vm ∧ U.heap = h0) (fun _ _ _ _ _ => True) (fun _ U o U' => ∃ v L, o = .returned v ∧ Q_rmC5_2_1 Z u0 u2 kA c0 c1 kB d0 d1 h0 n0 v U'.heap L ∧ FrameEnd U o U' L ({ frames := 0, cells := 0, slots := 0, locals := 0 } : Room).cells ({ frames := 0, cells := 0, slots := 0, locals := 0 } : Room).slots) := by
  refine MetFree.of_bodySF (plainFor_of_name pn_6) hisR ?_
  intro p e s m args below meth c s₁ Bd hml0 hP hK
  obtain ⟨rfl, hZ, hh⟩ := hP
  have hx := Bd.exec
  have hby := Bd.bytes
  have hml : c.maxLocals = 7 := hml0
  have hown : s.vm.findClass "java/lang/StringUTF16" = some m.cls := findClass_of_methodNamed Bd.named
  have hnm := (name_of_methodNamed Bd.named Bd.method).1
  have X0 : Stand p l e ({ frames := 0, cells := 0, slots := 0, locals := 0 } : Room) s m #[(.ref u0), (.int (0 : Int32)), (.ref u2), (.int (0 : Int32)), (.int (2 : Int32))] below meth c s₁ [] 0 0 := Stand.of_body Bd
  have e0 : s₁.heap = h0 := by rw [← hh, Bd.state]; rfl
  have N0 := Fr.nil n0
  have pre0 : ∀ t, Steps p.tables e below (s₁.setTop (mkF m 0 #[rv u0, iv (0 : Int32), rv u2, iv (0 : Int32), iv (2 : Int32), .unset, .unset] [])) t → Steps p.tables e below (s₁.setTop (entryFrame m #[(.ref u0), (.int (0 : Int32)), (.ref u2), (.int (0 : Int32)), (.int (2 : Int32))] 7)) t := fun t k => castTop (ef_rmC5_2_1 m u0 (0 : Int32) u2 (0 : Int32) (2 : Int32)) k
  obtain ⟨cl1, Ar1, qq1, S1, N1_, H1, G1⟩ := id P_V_u0
  have hin1 : ¬ ((0 : Int32) < 0 ∨ cl1.slots.size ≤ ((0 : Int32)).toNatClampNeg) := inb_of S1 ⟨by decide, by decide⟩
  have hat1 : cl1.slots[((0 : Int32)).toNatClampNeg]? = some (.int c0) := H1.at hin1 rfl
  obtain ⟨cl2, Ar2, qq2, S2, N2_, H2, G2⟩ := id P_V_u2
  have hin2 : ¬ ((0 : Int32) < 0 ∨ cl2.slots.size ≤ ((0 : Int32)).toNatClampNeg) := inb_of S2 ⟨by decide, by decide⟩
  obtain ⟨T3, h3, X3, e3, W3, st3⟩ := stB X0 hx hZ e0 Ar2 (j := (0 : Int32)) hin2 (g := (mkF m 31 #[rv u0, iv (0 : Int32), rv u2, iv (0 : Int32), iv (2 : Int32), iv (0 : Int32), iv c0] [(.int (c0.toInt8.toInt32)), (.int (0 : Int32)), (.ref u2)])) rfl rfl (hb hby d6_31)
  have V3 : Arv Z h3 u2 kB .byte (2 : Int32) [(.int ((c0.toInt8.toInt32).toInt8.toInt32)), (.int d1)] (.int (0 : Int32)) := Arv.set Ar2 qq2 S2 N2_ H2 G2 (fits_nar_byte _) W3 0 rfl (Nat.le_of_ble_eq_true rfl)
  have N4 := Fr.snoc X3 N0 g_u2
  have K5 : Keep h0 h3 [u2] := (Keep.refl h0 [u2]).wr W3 (Or.inl (List.mem_of_getElem? (i := 0) rfl))
  have f6 : Arv Z h3 u0 kA .char (2 : Int32) [(.int c0), (.int c1)] (.int (0 : Int32)) := (P_V_u0.other W3 neA)
  obtain ⟨cl7, Ar7, qq7, S7, N7_, H7, G7⟩ := id f6
  have hin7 : ¬ ((1 : Int32) < 0 ∨ cl7.slots.size ≤ ((1 : Int32)).toNatClampNeg) := inb_of S7 ⟨by decide, by decide⟩
  have hat7 : cl7.slots[((1 : Int32)).toNatClampNeg]? = some (.int c1) := H7.at hin7 rfl
  obtain ⟨fs, hr, hrun, hended, hW, hsame⟩ := X3.leave (v := some (.int (1 : Int32))) (fun h => by rw [Bd.returns] at h; cases h)
  refine ⟨_, _, pre0 _ ?_, hrun, hended, _, _, rfl, ?_, ⟨_, rfl⟩, hW, hsame.mono (by decide) (by decide)⟩
  · refine XS.iconst X0.here hx rfl (hb hby d6_0) ?_
    refine XS.istore X0.here hx rfl (hb hby d6_1) rfl (l' := #[rv u0, iv (0 : Int32), rv u2, iv (0 : Int32), iv (2 : Int32), iv (0 : Int32), .unset]) rfl ?_
    refine XS.iload X0.here hx rfl (hb hby d6_3) rfl ?_
    refine XS.iload X0.here hx rfl (hb hby d6_5) rfl ?_
    refine XS.icmpNo X0.here hx rfl (hb hby d6_7) rfl (tlt (by decide : (0 : Int32) < (2 : Int32))).2.1 ?_
    refine XS.aloadN X0.here hx rfl (hb hby d6_10) rfl rfl ?_
    refine XS.iloadN X0.here hx rfl (hb hby d6_11) rfl ?_
    refine X0.caload hx (j := (0 : Int32)) (v := (.int c0)) (by rw [e0]; exact Ar1.1) (State.isArrayOf_alike hZ.alike Ar1.2.1) Ar1.2.2 hin1 hat1 (g := (mkF m 12 #[rv u0, iv (0 : Int32), rv u2, iv (0 : Int32), iv (2 : Int32), iv (0 : Int32), .unset] [(.int (0 : Int32)), (.ref u0)])) rfl rfl (hb hby d6_12) _ ?_
    refine XS.istore X0.here hx rfl (hb hby d6_13) rfl (l' := #[rv u0, iv (0 : Int32), rv u2, iv (0 : Int32), iv (2 : Int32), iv (0 : Int32), iv c0]) rfl ?_
    refine XS.iload X0.here hx rfl (hb hby d6_15) rfl ?_
    refine XS.sipush X0.here hx rfl (hb hby d6_17) ?_
    refine XS.icmpYes X0.here hx rfl (pc0 := 20) (pc' := 26) rfl (hb hby d6_20) rfl (flt hp0).2.2.2 (by decide) (by decide) ?_
    refine XS.aloadN X0.here hx rfl (hb hby d6_26) rfl rfl ?_
    refine XS.iloadN X0.here hx rfl (hb hby d6_27) rfl ?_
    refine XS.iload X0.here hx rfl (hb hby d6_28) rfl ?_
    refine XS.i2b X0.here hx rfl (hb hby d6_30) rfl ?_
    refine st3 _ ?_
    refine XS.iinc X3.here hx rfl (hb hby d6_32) rfl (l' := #[rv u0, iv (1 : Int32), rv u2, iv (0 : Int32), iv (2 : Int32), iv (0 : Int32), iv c0]) rfl ?_
    refine XS.iinc X3.here hx rfl (hb hby d6_35) rfl (l' := #[rv u0, iv (1 : Int32), rv u2, iv (1 : Int32), iv (2 : Int32), iv (0 : Int32), iv c0]) rfl ?_
    refine XS.iinc X3.here hx rfl (hb hby d6_38) rfl (l' := #[rv u0, iv (1 : Int32), rv u2, iv (1 : Int32), iv (2 : Int32), iv (1 : Int32), iv c0]) rfl ?_
    refine XS.goto X3.here hx rfl (pc0 := 41) (pc' := 3) rfl (hb hby d6_41) (by decide) (by decide) ?_
    refine XS.iload X3.here hx rfl (hb hby d6_3) rfl ?_
    refine XS.iload X3.here hx rfl (hb hby d6_5) rfl ?_
    show Steps _ _ _ (T3.setTop (mkF m 7 #[rv u0, iv (1 : Int32), rv u2, iv (1 : Int32), iv (2 : Int32), iv (1 : Int32), iv c0] [(.int (2 : Int32)), (.int (1 : Int32))])) _
    refine XS.icmpNo X3.here hx rfl (hb hby d6_7) rfl (tlt (by decide : (1 : Int32) < (2 : Int32))).2.1 ?_
    refine XS.aloadN X3.here hx rfl (hb hby d6_10) rfl rfl ?_
    refine XS.iloadN X3.here hx rfl (hb hby d6_11) rfl ?_
    refine X3.caload hx (j := (1 : Int32)) (v := (.int c1)) (by rw [e3]; exact Ar7.1) (State.isArrayOf_alike hZ.alike Ar7.2.1) Ar7.2.2 hin7 hat7 (g := (mkF m 12 #[rv u0, iv (1 : Int32), rv u2, iv (1 : Int32), iv (2 : Int32), iv (1 : Int32), iv c0] [(.int (1 : Int32)), (.ref u0)])) rfl rfl (hb hby d6_12) _ ?_
    refine XS.istore X3.here hx rfl (hb hby d6_13) rfl (l' := #[rv u0, iv (1 : Int32), rv u2, iv (1 : Int32), iv (2 : Int32), iv (1 : Int32), iv c1]) rfl ?_
    refine XS.iload X3.here hx rfl (hb hby d6_15) rfl ?_
    refine XS.sipush X3.here hx rfl (hb hby d6_17) ?_
    refine XS.icmpNo X3.here hx rfl (hb hby d6_20) rfl (tlt hp1).2.2.2 ?_
    refine XS.iload X3.here hx rfl (hb hby d6_23) rfl ?_
    show Steps _ _ _ (T3.setTop (mkF m 25 #[rv u0, iv (1 : Int32), rv u2, iv (1 : Int32), iv (2 : Int32), iv (1 : Int32), iv c1] [(.int (1 : Int32))])) _
    exact retI X3 hx Bd.returns (hb hby d6_25) hr
  · show Q_rmC5_2_1 Z u0 u2 kA c0 c1 kB d0 d1 h0 n0 _ T3.heap _
    rw [e3]
    exact ⟨rfl, N4, K5, V3⟩

theorem ef_rmC5_2_2 (m : MethodId) (x0 : Addr) (x1 : Int32) (x2 : Addr) (x3 : Int32) (x4 : Int32) : entryFrame m #[(.ref x0), (.int x1), (.ref x2), (.int x3), (.int x4)] 7 = mkF m 0 #[rv x0, iv x1, rv x2, iv x3, iv x4, .unset, .unset] [] := by first | (simp [entryFrame, mkF, argsToLocals, Value.category]; done) | rfl
def Q_rmC5_2_2 (Z : State) (u0 : Addr) (u2 : Addr) (kA : ClassId) (c0 : Int32) (c1 : Int32) (kB : ClassId) (d0 : Int32) (d1 : Int32) (h0 : Heap) (n0 : Nat) (v : Option Value) (h : Heap) (L : List Loc) : Prop := (v = (some (.int (2 : Int32))) ∧ Fr n0 L ∧ Keep h0 h [u2] ∧ Arv Z h u2 kB .byte (2 : Int32) [(.int ((c0.toInt8.toInt32).toInt8.toInt32)), (.int ((c1.toInt8.toInt32).toInt8.toInt32))] (.int (0 : Int32)))
set_option maxRecDepth 65536 in
set_option maxHeartbeats 40000000 in
theorem rmC5_2_2 (l : Launch) (Z : State) (a0 : Array Value) (hw : ∀ d ∈ tables_1, d.before a0 Z = true) (ws : List Jvm.Cond) (u0 : Addr) (u2 : Addr) (kA : ClassId) (c0 : Int32) (c1 : Int32) (kB : ClassId) (d0 : Int32) (d1 : Int32) (h0 : Heap) (n0 : Nat) (Z0 : n0 ≤ h0.size) (P_V_u0 : Arv Z h0 u0 kA .char (2 : Int32) [(.int c0), (.int c1)] (.int (0 : Int32))) (P_V_u2 : Arv Z h0 u2 kB .byte (2 : Int32) [(.int d0), (.int d1)] (.int (0 : Int32))) (neA : u0 ≠ u2) (hp0 : ¬ ((255 : Int32) < c0)) (hp1 : ¬ ((255 : Int32) < c1)) (g_u2 : n0 ≤ u2) :
    MetFree l own_y5 (head1 (Jvm.Cond.code own_y5 jdk_52_method_21_code 7 (some .int) :: ws) ({ frames := 0, cells := 0, slots := 0, locals := 0 } : Room)) (fun a U => a = #[(.ref u0), (.int (0 : Int32)), (.ref u2), (.int (0 : Int32)), (.int (2 : Int32))] ∧ Z.Warmed39 U.vm ∧ U.heap = h0) (fun _ _ _ _ _ => True) (fun _ U o U' => ∃ v L, o = .returned v ∧ Q_rmC5_2_2 Z u0 u2 kA c0 c1 kB d0 d1 h0 n0 v U'.heap L ∧ FrameEnd U o U' L ({ frames := 0, cells := 0, slots := 0, locals := 0 } : Room).cells ({ frames := 0, cells := 0, slots := 0, locals := 0 } : Room).slots) := by
  refine MetFree.of_bodySF (plainFor_of_name pn_6) hisR ?_
  intro p e s m args below meth c s₁ Bd hml0 hP hK
  obtain ⟨rfl, hZ, hh⟩ := hP
  have hx := Bd.exec
  have hby := Bd.bytes
  have hml : c.maxLocals = 7 := hml0
  have hown : s.vm.findClass "java/lang/StringUTF16" = some m.cls := findClass_of_methodNamed Bd.named
  have hnm := (name_of_methodNamed Bd.named Bd.method).1
  have X0 : Stand p l e ({ frames := 0, cells := 0, slots := 0, locals := 0 } : Room) s m #[(.ref u0), (.int (0 : Int32)), (.ref u2), (.int (0 : Int32)), (.int (2 : Int32))] below meth c s₁ [] 0 0 := Stand.of_body Bd
  have e0 : s₁.heap = h0 := by rw [← hh, Bd.state]; rfl
  have N0 := Fr.nil n0
  have pre0 : ∀ t, Steps p.tables e below (s₁.setTop (mkF m 0 #[rv u0, iv (0 : Int32), rv u2, iv (0 : Int32), iv (2 : Int32), .unset, .unset] [])) t → Steps p.tables e below (s₁.setTop (entryFrame m #[(.ref u0), (.int (0 : Int32)), (.ref u2), (.int (0 : Int32)), (.int (2 : Int32))] 7)) t := fun t k => castTop (ef_rmC5_2_2 m u0 (0 : Int32) u2 (0 : Int32) (2 : Int32)) k
  obtain ⟨cl1, Ar1, qq1, S1, N1_, H1, G1⟩ := id P_V_u0
  have hin1 : ¬ ((0 : Int32) < 0 ∨ cl1.slots.size ≤ ((0 : Int32)).toNatClampNeg) := inb_of S1 ⟨by decide, by decide⟩
  have hat1 : cl1.slots[((0 : Int32)).toNatClampNeg]? = some (.int c0) := H1.at hin1 rfl
  obtain ⟨cl2, Ar2, qq2, S2, N2_, H2, G2⟩ := id P_V_u2
  have hin2 : ¬ ((0 : Int32) < 0 ∨ cl2.slots.size ≤ ((0 : Int32)).toNatClampNeg) := inb_of S2 ⟨by decide, by decide⟩
  obtain ⟨T3, h3, X3, e3, W3, st3⟩ := stB X0 hx hZ e0 Ar2 (j := (0 : Int32)) hin2 (g := (mkF m 31 #[rv u0, iv (0 : Int32), rv u2, iv (0 : Int32), iv (2 : Int32), iv (0 : Int32), iv c0] [(.int (c0.toInt8.toInt32)), (.int (0 : Int32)), (.ref u2)])) rfl rfl (hb hby d6_31)
  have V3 : Arv Z h3 u2 kB .byte (2 : Int32) [(.int ((c0.toInt8.toInt32).toInt8.toInt32)), (.int d1)] (.int (0 : Int32)) := Arv.set Ar2 qq2 S2 N2_ H2 G2 (fits_nar_byte _) W3 0 rfl (Nat.le_of_ble_eq_true rfl)
  have N4 := Fr.snoc X3 N0 g_u2
  have K5 : Keep h0 h3 [u2] := (Keep.refl h0 [u2]).wr W3 (Or.inl (List.mem_of_getElem? (i := 0) rfl))
  have f6 : Arv Z h3 u0 kA .char (2 : Int32) [(.int c0), (.int c1)] (.int (0 : Int32)) := (P_V_u0.other W3 neA)
  obtain ⟨cl7, Ar7, qq7, S7, N7_, H7, G7⟩ := id f6
  have hin7 : ¬ ((1 : Int32) < 0 ∨ cl7.slots.size ≤ ((1 : Int32)).toNatClampNeg) := inb_of S7 ⟨by decide, by decide⟩
  have hat7 : cl7.slots[((1 : Int32)).toNatClampNeg]? = some (.int c1) := H7.at hin7 rfl
  obtain ⟨cl8, Ar8, qq8, S8, N8_, H8, G8⟩ := id V3
  have hin8 : ¬ ((1 : Int32) < 0 ∨ cl8.slots.size ≤ ((1 : Int32)).toNatClampNeg) := inb_of S8 ⟨by decide, by decide⟩
  obtain ⟨T9, h9, X9, e9, W9, st9⟩ := stB X3 hx hZ e3 Ar8 (j := (1 : Int32)) hin8 (g := (mkF m 31 #[rv u0, iv (1 : Int32), rv u2, iv (1 : Int32), iv (2 : Int32), iv (1 : Int32), iv c1] [(.int (c1.toInt8.toInt32)), (.int (1 : Int32)), (.ref u2)])) rfl rfl (hb hby d6_31)
  have V9 : Arv Z h9 u2 kB .byte (2 : Int32) [(.int ((c0.toInt8.toInt32).toInt8.toInt32)), (.int ((c1.toInt8.toInt32).toInt8.toInt32))] (.int (0 : Int32)) := Arv.set Ar8 qq8 S8 N8_ H8 G8 (fits_nar_byte _) W9 1 rfl (Nat.le_of_ble_eq_true rfl)
  have N10 := Fr.snoc X9 N4 g_u2
  have K11 : Keep h0 h9 [u2] := K5.wr W9 (Or.inl (List.mem_of_getElem? (i := 0) rfl))
  obtain ⟨fs, hr, hrun, hended, hW, hsame⟩ := X9.leave (v := some (.int (2 : Int32))) (fun h => by rw [Bd.returns] at h; cases h)
  refine ⟨_, _, pre0 _ ?_, hrun, hended, _, _, rfl, ?_, ⟨_, rfl⟩, hW, hsame.mono (by decide) (by decide)⟩
  · refine XS.iconst X0.here hx rfl (hb hby d6_0) ?_
    refine XS.istore X0.here hx rfl (hb hby d6_1) rfl (l' := #[rv u0, iv (0 : Int32), rv u2, iv (0 : Int32), iv (2 : Int32), iv (0 : Int32), .unset]) rfl ?_
    refine XS.iload X0.here hx rfl (hb hby d6_3) rfl ?_
    refine XS.iload X0.here hx rfl (hb hby d6_5) rfl ?_
    refine XS.icmpNo X0.here hx rfl (hb hby d6_7) rfl (tlt (by decide : (0 : Int32) < (2 : Int32))).2.1 ?_
    refine XS.aloadN X0.here hx rfl (hb hby d6_10) rfl rfl ?_
    refine XS.iloadN X0.here hx rfl (hb hby d6_11) rfl ?_
    refine X0.caload hx (j := (0 : Int32)) (v := (.int c0)) (by rw [e0]; exact Ar1.1) (State.isArrayOf_alike hZ.alike Ar1.2.1) Ar1.2.2 hin1 hat1 (g := (mkF m 12 #[rv u0, iv (0 : Int32), rv u2, iv (0 : Int32), iv (2 : Int32), iv (0 : Int32), .unset] [(.int (0 : Int32)), (.ref u0)])) rfl rfl (hb hby d6_12) _ ?_
    refine XS.istore X0.here hx rfl (hb hby d6_13) rfl (l' := #[rv u0, iv (0 : Int32), rv u2, iv (0 : Int32), iv (2 : Int32), iv (0 : Int32), iv c0]) rfl ?_
    refine XS.iload X0.here hx rfl (hb hby d6_15) rfl ?_
    refine XS.sipush X0.here hx rfl (hb hby d6_17) ?_
    refine XS.icmpYes X0.here hx rfl (pc0 := 20) (pc' := 26) rfl (hb hby d6_20) rfl (flt hp0).2.2.2 (by decide) (by decide) ?_
    refine XS.aloadN X0.here hx rfl (hb hby d6_26) rfl rfl ?_
    refine XS.iloadN X0.here hx rfl (hb hby d6_27) rfl ?_
    refine XS.iload X0.here hx rfl (hb hby d6_28) rfl ?_
    refine XS.i2b X0.here hx rfl (hb hby d6_30) rfl ?_
    refine st3 _ ?_
    refine XS.iinc X3.here hx rfl (hb hby d6_32) rfl (l' := #[rv u0, iv (1 : Int32), rv u2, iv (0 : Int32), iv (2 : Int32), iv (0 : Int32), iv c0]) rfl ?_
    refine XS.iinc X3.here hx rfl (hb hby d6_35) rfl (l' := #[rv u0, iv (1 : Int32), rv u2, iv (1 : Int32), iv (2 : Int32), iv (0 : Int32), iv c0]) rfl ?_
    refine XS.iinc X3.here hx rfl (hb hby d6_38) rfl (l' := #[rv u0, iv (1 : Int32), rv u2, iv (1 : Int32), iv (2 : Int32), iv (1 : Int32), iv c0]) rfl ?_
    refine XS.goto X3.here hx rfl (pc0 := 41) (pc' := 3) rfl (hb hby d6_41) (by decide) (by decide) ?_
    refine XS.iload X3.here hx rfl (hb hby d6_3) rfl ?_
    refine XS.iload X3.here hx rfl (hb hby d6_5) rfl ?_
    show Steps _ _ _ (T3.setTop (mkF m 7 #[rv u0, iv (1 : Int32), rv u2, iv (1 : Int32), iv (2 : Int32), iv (1 : Int32), iv c0] [(.int (2 : Int32)), (.int (1 : Int32))])) _
    refine XS.icmpNo X3.here hx rfl (hb hby d6_7) rfl (tlt (by decide : (1 : Int32) < (2 : Int32))).2.1 ?_
    refine XS.aloadN X3.here hx rfl (hb hby d6_10) rfl rfl ?_
    refine XS.iloadN X3.here hx rfl (hb hby d6_11) rfl ?_
    refine X3.caload hx (j := (1 : Int32)) (v := (.int c1)) (by rw [e3]; exact Ar7.1) (State.isArrayOf_alike hZ.alike Ar7.2.1) Ar7.2.2 hin7 hat7 (g := (mkF m 12 #[rv u0, iv (1 : Int32), rv u2, iv (1 : Int32), iv (2 : Int32), iv (1 : Int32), iv c0] [(.int (1 : Int32)), (.ref u0)])) rfl rfl (hb hby d6_12) _ ?_
    refine XS.istore X3.here hx rfl (hb hby d6_13) rfl (l' := #[rv u0, iv (1 : Int32), rv u2, iv (1 : Int32), iv (2 : Int32), iv (1 : Int32), iv c1]) rfl ?_
    refine XS.iload X3.here hx rfl (hb hby d6_15) rfl ?_
    refine XS.sipush X3.here hx rfl (hb hby d6_17) ?_
    refine XS.icmpYes X3.here hx rfl (pc0 := 20) (pc' := 26) rfl (hb hby d6_20) rfl (flt hp1).2.2.2 (by decide) (by decide) ?_
    refine XS.aloadN X3.here hx rfl (hb hby d6_26) rfl rfl ?_
    refine XS.iloadN X3.here hx rfl (hb hby d6_27) rfl ?_
    refine XS.iload X3.here hx rfl (hb hby d6_28) rfl ?_
    refine XS.i2b X3.here hx rfl (hb hby d6_30) rfl ?_
    refine st9 _ ?_
    refine XS.iinc X9.here hx rfl (hb hby d6_32) rfl (l' := #[rv u0, iv (2 : Int32), rv u2, iv (1 : Int32), iv (2 : Int32), iv (1 : Int32), iv c1]) rfl ?_
    refine XS.iinc X9.here hx rfl (hb hby d6_35) rfl (l' := #[rv u0, iv (2 : Int32), rv u2, iv (2 : Int32), iv (2 : Int32), iv (1 : Int32), iv c1]) rfl ?_
    refine XS.iinc X9.here hx rfl (hb hby d6_38) rfl (l' := #[rv u0, iv (2 : Int32), rv u2, iv (2 : Int32), iv (2 : Int32), iv (2 : Int32), iv c1]) rfl ?_
    refine XS.goto X9.here hx rfl (pc0 := 41) (pc' := 3) rfl (hb hby d6_41) (by decide) (by decide) ?_
    refine XS.iload X9.here hx rfl (hb hby d6_3) rfl ?_
    refine XS.iload X9.here hx rfl (hb hby d6_5) rfl ?_
    refine XS.icmpYes X9.here hx rfl (pc0 := 7) (pc' := 44) rfl (hb hby d6_7) rfl (flt (by decide : ¬ ((2 : Int32) < (2 : Int32)))).2.1 (by decide) (by decide) ?_
    refine XS.iload X9.here hx rfl (hb hby d6_44) rfl ?_
    show Steps _ _ _ (T9.setTop (mkF m 46 #[rv u0, iv (2 : Int32), rv u2, iv (2 : Int32), iv (2 : Int32), iv (2 : Int32), iv c1] [(.int (2 : Int32))])) _
    exact retI X9 hx Bd.returns (hb hby d6_46) hr
  · show Q_rmC5_2_2 Z u0 u2 kA c0 c1 kB d0 d1 h0 n0 _ T9.heap _
    rw [e9]
    exact ⟨rfl, N10, K11, V9⟩

theorem ef_rmC3_2 (m : MethodId) (x0 : Addr) (x1 : Int32) (x2 : Int32) : entryFrame m #[(.ref x0), (.int x1), (.int x2)] 6 = mkF m 0 #[rv x0, iv x1, iv x2, .unset, .unset, .unset] [] := by first | (simp [entryFrame, mkF, argsToLocals, Value.category]; done) | rfl
def Q_rmC3_2 (Z : State) (u0 : Addr) (kA : ClassId) (c0 : Int32) (c1 : Int32) (h0 : Heap) (n0 : Nat) (v : Option Value) (h : Heap) (L : List Loc) : Prop := ∃ (t : Addr), ∃ (kt : ClassId), ∃ (z : Int32), ∃ (vs : List Value), (v = (some (.ref t)) ∧ Fr n0 L ∧ Keep h0 h [] ∧ h0.size ≤ t ∧ Arv Z h t kt .byte z vs (.int 0) ∧ (z = (2 : Int32) ∨ z = (4 : Int32)))
set_option maxRecDepth 65536 in
set_option maxHeartbeats 40000000 in
theorem rmC3_2 (l : Launch) (Z : State) (a0 : Array Value) (hw : ∀ d ∈ tables_1, d.before a0 Z = true) (ws : List Jvm.Cond) (u0 : Addr) (kA : ClassId) (c0 : Int32) (c1 : Int32) (h0 : Heap) (n0 : Nat) (Z0 : n0 ≤ h0.size) (P_S_StringUTF16__assertionsDisabled : Sta Z h0 "java/lang/StringUTF16" "$assertionsDisabled" "Z" (.int (1 : Int32))) (P_S_StringUTF16_HI_BYTE_SHIFT : Sta Z h0 "java/lang/StringUTF16" "HI_BYTE_SHIFT" "I" (.int (0 : Int32))) (P_S_StringUTF16_LO_BYTE_SHIFT : Sta Z h0 "java/lang/StringUTF16" "LO_BYTE_SHIFT" "I" (.int (8 : Int32))) (P_V_u0 : Arv Z h0 u0 kA .char (2 : Int32) [(.int c0), (.int c1)] (.int (0 : Int32))) (hr0 : ¬ c0 < 0 ∧ ¬ (65535 : Int32) < c0) (hr1 : ¬ c1 < 0 ∧ ¬ (65535 : Int32) < c1) :
    MetFree l own_y6 (head1 (Jvm.Cond.code own_y6 jdk_52_method_16_code 6 (some (.array .byte)) :: ws) ({ frames := 3, cells := 2, slots := 6, locals := 40 } : Room)) (fun a U => a = #[(.ref u0), (.int (0 : Int32)), (.int (2 : Int32))] ∧ Z.Warmed39 U.vm ∧ U.heap = h0) (fun _ _ _ _ _ => True) (fun _ U o U' => ∃ v L, o = .returned v ∧ Q_rmC3_2 Z u0 kA c0 c1 h0 n0 v U'.heap L ∧ FrameEnd U o U' L ({ frames := 3, cells := 2, slots := 6, locals := 40 } : Room).cells ({ frames := 3, cells := 2, slots := 6, locals := 40 } : Room).slots) := by
  refine MetFree.of_bodySF (plainFor_of_name pn_5) hisR ?_
  intro p e s m args below meth c s₁ Bd hml0 hP hK
  obtain ⟨rfl, hZ, hh⟩ := hP
  have hx := Bd.exec
  have hby := Bd.bytes
  have hml : c.maxLocals = 6 := hml0
  have hown : s.vm.findClass "java/lang/StringUTF16" = some m.cls := findClass_of_methodNamed Bd.named
  have hnm := (name_of_methodNamed Bd.named Bd.method).1
  have X0 : Stand p l e ({ frames := 3, cells := 2, slots := 6, locals := 40 } : Room) s m #[(.ref u0), (.int (0 : Int32)), (.int (2 : Int32))] below meth c s₁ [] 0 0 := Stand.of_body Bd
  have e0 : s₁.heap = h0 := by rw [← hh, Bd.state]; rfl
  have N0 := Fr.nil n0
  have pre0 : ∀ t, Steps p.tables e below (s₁.setTop (mkF m 0 #[rv u0, iv (0 : Int32), iv (2 : Int32), .unset, .unset, .unset] [])) t → Steps p.tables e below (s₁.setTop (entryFrame m #[(.ref u0), (.int (0 : Int32)), (.int (2 : Int32))] 6)) t := fun t k => castTop (ef_rmC3_2 m u0 (0 : Int32) (2 : Int32)) k
  obtain ⟨T1, h1, k1, X1, e1, E1, A1, st1⟩ := newP X0 hx hZ (own_g hw 25 rfl) e0 (g := (mkF m 1 #[rv u0, iv (0 : Int32), iv (2 : Int32), .unset, .unset, .unset] [(.int (2 : Int32))])) rfl (hb hby d5_1) rfl (by decide) (cap := 2) (by decide) (by decide) (by decide) (by decide)
  obtain ⟨b1, g1⟩ : ∃ z, z = h0.size := ⟨_, rfl⟩
  rw [← g1] at A1 st1
  have ne2 : u0 ≠ b1 := Nat.ne_of_lt (Nat.lt_of_lt_of_le P_V_u0.lt (Nat.le_of_eq g1.symm))
  have o1 : n0 ≤ b1 := Nat.le_trans Z0 (Nat.le_of_eq g1.symm)
  have z1 : h0.size ≤ b1 := Nat.le_trans (Keep.refl h0 []).1 (Nat.le_of_eq g1.symm)
  have K1 : Keep h0 h1 [] := (Keep.refl h0 []).ext E1
  have V1 : Arv Z h1 b1 k1 .byte (2 : Int32) [(.int (0 : Int32)), (.int (0 : Int32))] (.int (0 : Int32)) := (Arv.new A1 (by decide)).pad (pad_rep [] (.int (0 : Int32)) 2)
  have pre4 : ∀ t, Steps p.tables e below (T1.setTop (mkF m 9 #[rv u0, iv (0 : Int32), iv (2 : Int32), rv b1, .unset, .unset] [(.int (2 : Int32)), (.int (0 : Int32)), (.ref b1), (.int (0 : Int32)), (.ref u0)])) t → Steps p.tables e below (s₁.setTop (entryFrame m #[(.ref u0), (.int (0 : Int32)), (.int (2 : Int32))] 6)) t := fun t kt => pre0 t (by
   refine XS.iloadN X0.here hx rfl (hb hby d5_0) rfl ?_
   refine st1 _ ?_
   refine XS.astoreN X1.here hx rfl (hb hby d5_3) rfl rfl (l' := #[rv u0, iv (0 : Int32), iv (2 : Int32), rv b1, .unset, .unset]) rfl ?_
   refine XS.aloadN X1.here hx rfl (hb hby d5_4) rfl rfl ?_
   refine XS.iloadN X1.here hx rfl (hb hby d5_5) rfl ?_
   refine XS.aloadN X1.here hx rfl (hb hby d5_6) rfl rfl ?_
   refine XS.iconst X1.here hx rfl (hb hby d5_7) ?_
   refine XS.iloadN X1.here hx rfl (hb hby d5_8) rfl ?_
   exact kt)
  by_cases hc9_3 : (255 : Int32) < c0
  · have f5 : Arv Z h1 u0 kA .char (2 : Int32) [(.int c0), (.int c1)] (.int (0 : Int32)) := (P_V_u0.ext E1)
    have f6 : n0 ≤ h1.size := (Nat.le_trans Z0 E1.1)
    obtain ⟨_, _, ⟨T7, L7, k7, n7⟩, -, X7, ⟨Lc7, hQ7, l7, y7, z7⟩, st7⟩ := Jvm.LawKit.callS X1 hx (y := own_y5) hown (mvT hZ (own_g hw 26 rfl)) (mvT hZ (own_g hw 27 rfl)) (mvT hZ (own_g hw 23 rfl)) (mvT hZ (own_g hw 28 rfl)) (by decide) (backOf (W := 0) (rmC5_2_0 l Z a0 hw [] u0 b1 kA c0 c1 k1 (0 : Int32) (0 : Int32) h1 n0 f6 f5 V1 ne2 hc9_3 o1) hZ (own_g hw 28 rfl) (own_g hw 23 rfl) (by decide) (by decide)) (g := (mkF m 9 #[rv u0, iv (0 : Int32), iv (2 : Int32), rv b1, .unset, .unset] [(.int (2 : Int32)), (.int (0 : Int32)), (.ref b1), (.int (0 : Int32)), (.ref u0)])) rfl (by rw [hml]; rfl) (argsL := [(.ref u0), (.int (0 : Int32)), (.ref b1), (.int (0 : Int32)), (.int (2 : Int32))]) (rest := []) (lenOf pd___CI_BII_I rfl) rfl (by show 2 * 0 + _ ≤ _; exact Nat.le_of_eq rfl) (hb hby d5_9) (fun _ _ => ⟨rfl, e1, (by decide : 1 + 0 ≤ _), (by decide : 2 + 0 ≤ _)⟩)
    dsimp only [Pt.U, Pt.locs, Pt.cells, Pt.slots] at X7 l7 y7 z7 st7 hQ7
    subst l7 y7 z7
    obtain ⟨rfl, N7q, K7, f8⟩ := hQ7
    have KK7 : Keep h0 T7.heap [] := Keep.trans K1 K7 (allS (Or.inr z1) all0)
    have N7 := Fr.app N0 N7q
    have f9 : Sta Z T7.heap "java/lang/StringUTF16" "$assertionsDisabled" "Z" (.int (1 : Int32)) := (own_staKeep (P_S_StringUTF16__assertionsDisabled.ext E1) K7 (nsS V1.nostat ns0))
    have f10 : Sta Z T7.heap "java/lang/StringUTF16" "HI_BYTE_SHIFT" "I" (.int (0 : Int32)) := (own_staKeep (P_S_StringUTF16_HI_BYTE_SHIFT.ext E1) K7 (nsS V1.nostat ns0))
    have f11 : Sta Z T7.heap "java/lang/StringUTF16" "LO_BYTE_SHIFT" "I" (.int (8 : Int32)) := (own_staKeep (P_S_StringUTF16_LO_BYTE_SHIFT.ext E1) K7 (nsS V1.nostat ns0))
    have f12 : Arv Z T7.heap u0 kA .char (2 : Int32) [(.int c0), (.int c1)] (.int (0 : Int32)) := (f5.keep K7 (ninS ne2 nin0))
    have f13 : n0 ≤ T7.heap.size := (Nat.le_trans f6 K7.1)
    obtain ⟨_, _, ⟨T14, L14, k14, n14⟩, -, X14, ⟨Lc14, hQ14, l14, y14, z14⟩, st14⟩ := Jvm.LawKit.callS X7 hx (y := own_y4) hown (mvT hZ (own_g hw 29 rfl)) (mvT hZ (own_g hw 30 rfl)) (mvT hZ (own_g hw 23 rfl)) (mvT hZ (own_g hw 31 rfl)) (by decide) (backOf (W := 0) (rmTB2 l Z a0 hw [] u0 kA c0 c1 T7.heap n0 f13 f9 f10 f11 f12) hZ (own_g hw 31 rfl) (own_g hw 23 rfl) (by decide) (by decide)) (g := (mkF m 23 #[rv u0, iv (0 : Int32), iv (2 : Int32), rv b1, iv (0 : Int32), .unset] [(.int (2 : Int32)), (.int (0 : Int32)), (.ref u0)])) rfl (by rw [hml]; rfl) (argsL := [(.ref u0), (.int (0 : Int32)), (.int (2 : Int32))]) (rest := []) (lenOf pd___CII__B rfl) rfl (by show 2 * 0 + _ ≤ _; exact Nat.le_of_eq rfl) (hb hby d5_23) (fun _ _ => ⟨rfl, rfl, (by decide : 1 + 1 ≤ _), (by decide : 2 + 4 ≤ _)⟩)
    dsimp only [Pt.U, Pt.locs, Pt.cells, Pt.slots] at X14 l14 y14 z14 st14 hQ14
    subst l14 y14 z14
    obtain ⟨t_14, kt_14, rfl, N14q, K14, sx14_0, f15⟩ := hQ14
    have ot_14 : n0 ≤ t_14 := Nat.le_trans f13 sx14_0
    have zt_14 : h0.size ≤ t_14 := Nat.le_trans KK7.1 sx14_0
    have ne16 : u0 ≠ t_14 := Nat.ne_of_lt (Nat.lt_of_lt_of_le f12.lt sx14_0)
    have ne17 : b1 ≠ t_14 := Nat.ne_of_lt (Nat.lt_of_lt_of_le f8.lt sx14_0)
    have KK14 : Keep h0 T14.heap [] := Keep.trans KK7 K14 all0
    have N14 := Fr.app N7 N14q
    have f18 : Sta Z T14.heap "java/lang/StringUTF16" "$assertionsDisabled" "Z" (.int (1 : Int32)) := (own_staKeep f9 K14 ns0)
    have f19 : Sta Z T14.heap "java/lang/StringUTF16" "HI_BYTE_SHIFT" "I" (.int (0 : Int32)) := (own_staKeep f10 K14 ns0)
    have f20 : Sta Z T14.heap "java/lang/StringUTF16" "LO_BYTE_SHIFT" "I" (.int (8 : Int32)) := (own_staKeep f11 K14 ns0)
    have f21 : n0 ≤ T14.heap.size := (Nat.le_trans f13 K14.1)
    obtain ⟨_, _, ⟨T22, L22, k22, n22⟩, -, X22, ⟨Lc22, hQ22, l22, y22, z22⟩, st22⟩ := Jvm.LawKit.callS X14 hx (y := own_y3) hown (mvT hZ (own_g hw 45 rfl)) (mvT hZ (own_g hw 46 rfl)) (mvT hZ (own_g hw 23 rfl)) (mvT hZ (own_g hw 47 rfl)) (by decide) (backOf (W := 0) (rmGC2_0 l Z a0 hw [] t_14 kt_14 (((c0 >>> ((0 : Int32) &&& 31)).toInt8.toInt32).toInt8.toInt32) (((c0 >>> ((8 : Int32) &&& 31)).toInt8.toInt32).toInt8.toInt32) (((c1 >>> ((0 : Int32) &&& 31)).toInt8.toInt32).toInt8.toInt32) (((c1 >>> ((8 : Int32) &&& 31)).toInt8.toInt32).toInt8.toInt32) T14.heap n0 f21 f18 f19 f20 f15) hZ (own_g hw 47 rfl) (own_g hw 23 rfl) (by decide) (by decide)) (g := (mkF m 32 #[rv u0, iv (0 : Int32), iv (2 : Int32), rv b1, iv (0 : Int32), rv t_14] [(.int (0 : Int32)), (.ref t_14)])) rfl (by rw [hml]; rfl) (argsL := [(.ref t_14), (.int (0 : Int32))]) (rest := []) (lenOf pd___BI_C rfl) rfl (by show 2 * 0 + _ ≤ _; exact Nat.le_of_eq rfl) (hb hby d5_32) (fun _ _ => ⟨rfl, rfl, (by decide : 2 + 0 ≤ _), (by decide : 6 + 0 ≤ _)⟩)
    dsimp only [Pt.U, Pt.locs, Pt.cells, Pt.slots] at X22 l22 y22 z22 st22 hQ22
    subst l22 y22 z22
    obtain ⟨rfl, N22q, e22⟩ := hQ22
    have N22 := Fr.app N14 N22q
    obtain ⟨fs, hr, hrun, hended, hW, hsame⟩ := X22.leave (v := some (.ref t_14)) (fun h => by rw [Bd.returns] at h; cases h)
    refine ⟨_, _, pre4 _ ?_, hrun, hended, _, _, rfl, ?_, ⟨_, rfl⟩, hW, hsame.mono (by decide) (by decide)⟩
    · show Steps _ _ _ (T1.setTop (mkF m 9 #[rv u0, iv (0 : Int32), iv (2 : Int32), rv b1, .unset, .unset] [(.int (2 : Int32)), (.int (0 : Int32)), (.ref b1), (.int (0 : Int32)), (.ref u0)])) _
      refine st7 _ ?_
      refine XS.istore X7.here hx rfl (hb hby d5_12) rfl (l' := #[rv u0, iv (0 : Int32), iv (2 : Int32), rv b1, iv (0 : Int32), .unset]) rfl ?_
      refine XS.iload X7.here hx rfl (hb hby d5_14) rfl ?_
      refine XS.iloadN X7.here hx rfl (hb hby d5_16) rfl ?_
      refine XS.icmpNo X7.here hx rfl (hb hby d5_17) rfl (feq (by decide : ¬ ((0 : Int32) = (2 : Int32)))).1 ?_
      refine XS.aloadN X7.here hx rfl (hb hby d5_20) rfl rfl ?_
      refine XS.iloadN X7.here hx rfl (hb hby d5_21) rfl ?_
      refine XS.iloadN X7.here hx rfl (hb hby d5_22) rfl ?_
      show Steps _ _ _ (T7.setTop (mkF m 23 #[rv u0, iv (0 : Int32), iv (2 : Int32), rv b1, iv (0 : Int32), .unset] [(.int (2 : Int32)), (.int (0 : Int32)), (.ref u0)])) _
      refine st14 _ ?_
      refine XS.astore X14.here hx rfl (hb hby d5_26) rfl rfl (l' := #[rv u0, iv (0 : Int32), iv (2 : Int32), rv b1, iv (0 : Int32), rv t_14]) rfl ?_
      refine XS.aload X14.here hx rfl (hb hby d5_28) rfl rfl ?_
      refine XS.iload X14.here hx rfl (hb hby d5_30) rfl ?_
      show Steps _ _ _ (T14.setTop (mkF m 32 #[rv u0, iv (0 : Int32), iv (2 : Int32), rv b1, iv (0 : Int32), rv t_14] [(.int (0 : Int32)), (.ref t_14)])) _
      refine st22 _ ?_
      refine XS.sipush X22.here hx rfl (hb hby d5_35) ?_
      refine XS.icmpYes X22.here hx rfl (pc0 := 38) (pc' := 54) rfl (hb hby d5_38) rfl (tlt (own_gp hr0 hc9_3)).2.2.1 (by decide) (by decide) ?_
      refine XS.aload X22.here hx rfl (hb hby d5_54) rfl rfl ?_
      show Steps _ _ _ (T22.setTop (mkF m 56 #[rv u0, iv (0 : Int32), iv (2 : Int32), rv b1, iv (0 : Int32), rv t_14] [(.ref t_14)])) _
      exact retOut X22 hx Bd.returns rfl (Or.inr (Or.inr (Or.inr (Or.inr ⟨rfl, rfl, rfl⟩)))) (hb hby d5_56) hr
    · show Q_rmC3_2 Z u0 kA c0 c1 h0 n0 _ T22.heap _
      rw [e22]
      exact ⟨t_14, kt_14, (4 : Int32), [(.int (((c0 >>> ((0 : Int32) &&& 31)).toInt8.toInt32).toInt8.toInt32)), (.int (((c0 >>> ((8 : Int32) &&& 31)).toInt8.toInt32).toInt8.toInt32)), (.int (((c1 >>> ((0 : Int32) &&& 31)).toInt8.toInt32).toInt8.toInt32)), (.int (((c1 >>> ((8 : Int32) &&& 31)).toInt8.toInt32).toInt8.toInt32))], rfl, N22, KK14, zt_14, f15, (Or.inr rfl)⟩
  · by_cases hc9_23 : (255 : Int32) < c1
    · have f24 : Arv Z h1 u0 kA .char (2 : Int32) [(.int c0), (.int c1)] (.int (0 : Int32)) := (P_V_u0.ext E1)
      have f25 : n0 ≤ h1.size := (Nat.le_trans Z0 E1.1)
      obtain ⟨_, _, ⟨T26, L26, k26, n26⟩, -, X26, ⟨Lc26, hQ26, l26, y26, z26⟩, st26⟩ := Jvm.LawKit.callS X1 hx (y := own_y5) hown (mvT hZ (own_g hw 26 rfl)) (mvT hZ (own_g hw 27 rfl)) (mvT hZ (own_g hw 23 rfl)) (mvT hZ (own_g hw 28 rfl)) (by decide) (backOf (W := 0) (rmC5_2_1 l Z a0 hw [] u0 b1 kA c0 c1 k1 (0 : Int32) (0 : Int32) h1 n0 f25 f24 V1 ne2 hc9_3 hc9_23 o1) hZ (own_g hw 28 rfl) (own_g hw 23 rfl) (by decide) (by decide)) (g := (mkF m 9 #[rv u0, iv (0 : Int32), iv (2 : Int32), rv b1, .unset, .unset] [(.int (2 : Int32)), (.int (0 : Int32)), (.ref b1), (.int (0 : Int32)), (.ref u0)])) rfl (by rw [hml]; rfl) (argsL := [(.ref u0), (.int (0 : Int32)), (.ref b1), (.int (0 : Int32)), (.int (2 : Int32))]) (rest := []) (lenOf pd___CI_BII_I rfl) rfl (by show 2 * 0 + _ ≤ _; exact Nat.le_of_eq rfl) (hb hby d5_9) (fun _ _ => ⟨rfl, e1, (by decide : 1 + 0 ≤ _), (by decide : 2 + 0 ≤ _)⟩)
      dsimp only [Pt.U, Pt.locs, Pt.cells, Pt.slots] at X26 l26 y26 z26 st26 hQ26
      subst l26 y26 z26
      obtain ⟨rfl, N26q, K26, f27⟩ := hQ26
      have KK26 : Keep h0 T26.heap [] := Keep.trans K1 K26 (allS (Or.inr z1) all0)
      have N26 := Fr.app N0 N26q
      have f28 : Sta Z T26.heap "java/lang/StringUTF16" "$assertionsDisabled" "Z" (.int (1 : Int32)) := (own_staKeep (P_S_StringUTF16__assertionsDisabled.ext E1) K26 (nsS V1.nostat ns0))
      have f29 : Sta Z T26.heap "java/lang/StringUTF16" "HI_BYTE_SHIFT" "I" (.int (0 : Int32)) := (own_staKeep (P_S_StringUTF16_HI_BYTE_SHIFT.ext E1) K26 (nsS V1.nostat ns0))
      have f30 : Sta Z T26.heap "java/lang/StringUTF16" "LO_BYTE_SHIFT" "I" (.int (8 : Int32)) := (own_staKeep (P_S_StringUTF16_LO_BYTE_SHIFT.ext E1) K26 (nsS V1.nostat ns0))
      have f31 : Arv Z T26.heap u0 kA .char (2 : Int32) [(.int c0), (.int c1)] (.int (0 : Int32)) := (f24.keep K26 (ninS ne2 nin0))
      have f32 : n0 ≤ T26.heap.size := (Nat.le_trans f25 K26.1)
      obtain ⟨_, _, ⟨T33, L33, k33, n33⟩, -, X33, ⟨Lc33, hQ33, l33, y33, z33⟩, st33⟩ := Jvm.LawKit.callS X26 hx (y := own_y4) hown (mvT hZ (own_g hw 29 rfl)) (mvT hZ (own_g hw 30 rfl)) (mvT hZ (own_g hw 23 rfl)) (mvT hZ (own_g hw 31 rfl)) (by decide) (backOf (W := 0) (rmTB2 l Z a0 hw [] u0 kA c0 c1 T26.heap n0 f32 f28 f29 f30 f31) hZ (own_g hw 31 rfl) (own_g hw 23 rfl) (by decide) (by decide)) (g := (mkF m 23 #[rv u0, iv (0 : Int32), iv (2 : Int32), rv b1, iv (1 : Int32), .unset] [(.int (2 : Int32)), (.int (0 : Int32)), (.ref u0)])) rfl (by rw [hml]; rfl) (argsL := [(.ref u0), (.int (0 : Int32)), (.int (2 : Int32))]) (rest := []) (lenOf pd___CII__B rfl) rfl (by show 2 * 0 + _ ≤ _; exact Nat.le_of_eq rfl) (hb hby d5_23) (fun _ _ => ⟨rfl, rfl, (by decide : 1 + 1 ≤ _), (by decide : 2 + 4 ≤ _)⟩)
      dsimp only [Pt.U, Pt.locs, Pt.cells, Pt.slots] at X33 l33 y33 z33 st33 hQ33
      subst l33 y33 z33
      obtain ⟨t_33, kt_33, rfl, N33q, K33, sx33_0, f34⟩ := hQ33
      have ot_33 : n0 ≤ t_33 := Nat.le_trans f32 sx33_0
      have zt_33 : h0.size ≤ t_33 := Nat.le_trans KK26.1 sx33_0
      have ne35 : u0 ≠ t_33 := Nat.ne_of_lt (Nat.lt_of_lt_of_le f31.lt sx33_0)
      have ne36 : b1 ≠ t_33 := Nat.ne_of_lt (Nat.lt_of_lt_of_le f27.lt sx33_0)
      have KK33 : Keep h0 T33.heap [] := Keep.trans KK26 K33 all0
      have N33 := Fr.app N26 N33q
      have f37 : Sta Z T33.heap "java/lang/StringUTF16" "$assertionsDisabled" "Z" (.int (1 : Int32)) := (own_staKeep f28 K33 ns0)
      have f38 : Sta Z T33.heap "java/lang/StringUTF16" "HI_BYTE_SHIFT" "I" (.int (0 : Int32)) := (own_staKeep f29 K33 ns0)
      have f39 : Sta Z T33.heap "java/lang/StringUTF16" "LO_BYTE_SHIFT" "I" (.int (8 : Int32)) := (own_staKeep f30 K33 ns0)
      have f40 : n0 ≤ T33.heap.size := (Nat.le_trans f32 K33.1)
      obtain ⟨_, _, ⟨T41, L41, k41, n41⟩, -, X41, ⟨Lc41, hQ41, l41, y41, z41⟩, st41⟩ := Jvm.LawKit.callS X33 hx (y := own_y3) hown (mvT hZ (own_g hw 45 rfl)) (mvT hZ (own_g hw 46 rfl)) (mvT hZ (own_g hw 23 rfl)) (mvT hZ (own_g hw 47 rfl)) (by decide) (backOf (W := 0) (rmGC2_1 l Z a0 hw [] t_33 kt_33 (((c0 >>> ((0 : Int32) &&& 31)).toInt8.toInt32).toInt8.toInt32) (((c0 >>> ((8 : Int32) &&& 31)).toInt8.toInt32).toInt8.toInt32) (((c1 >>> ((0 : Int32) &&& 31)).toInt8.toInt32).toInt8.toInt32) (((c1 >>> ((8 : Int32) &&& 31)).toInt8.toInt32).toInt8.toInt32) T33.heap n0 f40 f37 f38 f39 f34) hZ (own_g hw 47 rfl) (own_g hw 23 rfl) (by decide) (by decide)) (g := (mkF m 32 #[rv u0, iv (0 : Int32), iv (2 : Int32), rv b1, iv (1 : Int32), rv t_33] [(.int (1 : Int32)), (.ref t_33)])) rfl (by rw [hml]; rfl) (argsL := [(.ref t_33), (.int (1 : Int32))]) (rest := []) (lenOf pd___BI_C rfl) rfl (by show 2 * 0 + _ ≤ _; exact Nat.le_of_eq rfl) (hb hby d5_32) (fun _ _ => ⟨rfl, rfl, (by decide : 2 + 0 ≤ _), (by decide : 6 + 0 ≤ _)⟩)
      dsimp only [Pt.U, Pt.locs, Pt.cells, Pt.slots] at X41 l41 y41 z41 st41 hQ41
      subst l41 y41 z41
      obtain ⟨rfl, N41q, e41⟩ := hQ41
      have N41 := Fr.app N33 N41q
      obtain ⟨fs, hr, hrun, hended, hW, hsame⟩ := X41.leave (v := some (.ref t_33)) (fun h => by rw [Bd.returns] at h; cases h)
      refine ⟨_, _, pre4 _ ?_, hrun, hended, _, _, rfl, ?_, ⟨_, rfl⟩, hW, hsame.mono (by decide) (by decide)⟩
      · show Steps _ _ _ (T1.setTop (mkF m 9 #[rv u0, iv (0 : Int32), iv (2 : Int32), rv b1, .unset, .unset] [(.int (2 : Int32)), (.int (0 : Int32)), (.ref b1), (.int (0 : Int32)), (.ref u0)])) _
        refine st26 _ ?_
        refine XS.istore X26.here hx rfl (hb hby d5_12) rfl (l' := #[rv u0, iv (0 : Int32), iv (2 : Int32), rv b1, iv (1 : Int32), .unset]) rfl ?_
        refine XS.iload X26.here hx rfl (hb hby d5_14) rfl ?_
        show Steps _ _ _ (T26.setTop (mkF m 16 #[rv u0, iv (0 : Int32), iv (2 : Int32), rv b1, iv (1 : Int32), .unset] [(.int (1 : Int32))])) _
        refine XS.iloadN X26.here hx rfl (hb hby d5_16) rfl ?_
        refine XS.icmpNo X26.here hx rfl (hb hby d5_17) rfl (feq (by decide : ¬ ((1 : Int32) = (2 : Int32)))).1 ?_
        refine XS.aloadN X26.here hx rfl (hb hby d5_20) rfl rfl ?_
        refine XS.iloadN X26.here hx rfl (hb hby d5_21) rfl ?_
        refine XS.iloadN X26.here hx rfl (hb hby d5_22) rfl ?_
        show Steps _ _ _ (T26.setTop (mkF m 23 #[rv u0, iv (0 : Int32), iv (2 : Int32), rv b1, iv (1 : Int32), .unset] [(.int (2 : Int32)), (.int (0 : Int32)), (.ref u0)])) _
        refine st33 _ ?_
        refine XS.astore X33.here hx rfl (hb hby d5_26) rfl rfl (l' := #[rv u0, iv (0 : Int32), iv (2 : Int32), rv b1, iv (1 : Int32), rv t_33]) rfl ?_
        refine XS.aload X33.here hx rfl (hb hby d5_28) rfl rfl ?_
        refine XS.iload X33.here hx rfl (hb hby d5_30) rfl ?_
        show Steps _ _ _ (T33.setTop (mkF m 32 #[rv u0, iv (0 : Int32), iv (2 : Int32), rv b1, iv (1 : Int32), rv t_33] [(.int (1 : Int32)), (.ref t_33)])) _
        refine st41 _ ?_
        refine XS.sipush X41.here hx rfl (hb hby d5_35) ?_
        refine XS.icmpYes X41.here hx rfl (pc0 := 38) (pc' := 54) rfl (hb hby d5_38) rfl (tlt (own_gp hr1 hc9_23)).2.2.1 (by decide) (by decide) ?_
        refine XS.aload X41.here hx rfl (hb hby d5_54) rfl rfl ?_
        show Steps _ _ _ (T41.setTop (mkF m 56 #[rv u0, iv (0 : Int32), iv (2 : Int32), rv b1, iv (1 : Int32), rv t_33] [(.ref t_33)])) _
        exact retOut X41 hx Bd.returns rfl (Or.inr (Or.inr (Or.inr (Or.inr ⟨rfl, rfl, rfl⟩)))) (hb hby d5_56) hr
      · show Q_rmC3_2 Z u0 kA c0 c1 h0 n0 _ T41.heap _
        rw [e41]
        exact ⟨t_33, kt_33, (4 : Int32), [(.int (((c0 >>> ((0 : Int32) &&& 31)).toInt8.toInt32).toInt8.toInt32)), (.int (((c0 >>> ((8 : Int32) &&& 31)).toInt8.toInt32).toInt8.toInt32)), (.int (((c1 >>> ((0 : Int32) &&& 31)).toInt8.toInt32).toInt8.toInt32)), (.int (((c1 >>> ((8 : Int32) &&& 31)).toInt8.toInt32).toInt8.toInt32))], rfl, N41, KK33, zt_33, f34, (Or.inr rfl)⟩
    · have f42 : Arv Z h1 u0 kA .char (2 : Int32) [(.int c0), (.int c1)] (.int (0 : Int32)) := (P_V_u0.ext E1)
      have f43 : n0 ≤ h1.size := (Nat.le_trans Z0 E1.1)
      obtain ⟨_, _, ⟨T44, L44, k44, n44⟩, -, X44, ⟨Lc44, hQ44, l44, y44, z44⟩, st44⟩ := Jvm.LawKit.callS X1 hx (y := own_y5) hown (mvT hZ (own_g hw 26 rfl)) (mvT hZ (own_g hw 27 rfl)) (mvT hZ (own_g hw 23 rfl)) (mvT hZ (own_g hw 28 rfl)) (by decide) (backOf (W := 0) (rmC5_2_2 l Z a0 hw [] u0 b1 kA c0 c1 k1 (0 : Int32) (0 : Int32) h1 n0 f43 f42 V1 ne2 hc9_3 hc9_23 o1) hZ (own_g hw 28 rfl) (own_g hw 23 rfl) (by decide) (by decide)) (g := (mkF m 9 #[rv u0, iv (0 : Int32), iv (2 : Int32), rv b1, .unset, .unset] [(.int (2 : Int32)), (.int (0 : Int32)), (.ref b1), (.int (0 : Int32)), (.ref u0)])) rfl (by rw [hml]; rfl) (argsL := [(.ref u0), (.int (0 : Int32)), (.ref b1), (.int (0 : Int32)), (.int (2 : Int32))]) (rest := []) (lenOf pd___CI_BII_I rfl) rfl (by show 2 * 0 + _ ≤ _; exact Nat.le_of_eq rfl) (hb hby d5_9) (fun _ _ => ⟨rfl, e1, (by decide : 1 + 0 ≤ _), (by decide : 2 + 0 ≤ _)⟩)
      dsimp only [Pt.U, Pt.locs, Pt.cells, Pt.slots] at X44 l44 y44 z44 st44 hQ44
      subst l44 y44 z44
      obtain ⟨rfl, N44q, K44, f45⟩ := hQ44
      have KK44 : Keep h0 T44.heap [] := Keep.trans K1 K44 (allS (Or.inr z1) all0)
      have N44 := Fr.app N0 N44q
      obtain ⟨fs, hr, hrun, hended, hW, hsame⟩ := X44.leave (v := some (.ref b1)) (fun h => by rw [Bd.returns] at h; cases h)
      refine ⟨_, _, pre4 _ ?_, hrun, hended, _, _, rfl, ?_, ⟨_, rfl⟩, hW, hsame.mono (by decide) (by decide)⟩
      · show Steps _ _ _ (T1.setTop (mkF m 9 #[rv u0, iv (0 : Int32), iv (2 : Int32), rv b1, .unset, .unset] [(.int (2 : Int32)), (.int (0 : Int32)), (.ref b1), (.int (0 : Int32)), (.ref u0)])) _
        refine st44 _ ?_
        refine XS.istore X44.here hx rfl (hb hby d5_12) rfl (l' := #[rv u0, iv (0 : Int32), iv (2 : Int32), rv b1, iv (2 : Int32), .unset]) rfl ?_
        refine XS.iload X44.here hx rfl (hb hby d5_14) rfl ?_
        refine XS.iloadN X44.here hx rfl (hb hby d5_16) rfl ?_
        refine XS.icmpYes X44.here hx rfl (pc0 := 17) (pc' := 57) rfl (hb hby d5_17) rfl (teq (by decide : (2 : Int32) = (2 : Int32))).1 (by decide) (by decide) ?_
        refine XS.aloadN X44.here hx rfl (hb hby d5_57) rfl rfl ?_
        show Steps _ _ _ (T44.setTop (mkF m 58 #[rv u0, iv (0 : Int32), iv (2 : Int32), rv b1, iv (2 : Int32), .unset] [(.ref b1)])) _
        exact retOut X44 hx Bd.returns rfl (Or.inr (Or.inr (Or.inr (Or.inr ⟨rfl, rfl, rfl⟩)))) (hb hby d5_58) hr
      · show Q_rmC3_2 Z u0 kA c0 c1 h0 n0 _ T44.heap _
        exact ⟨b1, k1, (2 : Int32), [(.int ((c0.toInt8.toInt32).toInt8.toInt32)), (.int ((c1.toInt8.toInt32).toInt8.toInt32))], rfl, N44, KK44, z1, f45, (Or.inl rfl)⟩

theorem ef_rmCF2_2 (m : MethodId) (x0 : Addr) (x1 : Int32) : entryFrame m #[(.ref x0), (.int x1)] 2 = mkF m 0 #[rv x0, iv x1] [] := by first | (simp [entryFrame, mkF, argsToLocals, Value.category]; done) | rfl
set_option maxRecDepth 65536 in
set_option maxHeartbeats 40000000 in
theorem rmCF2_2 (l : Launch) (Z : State) (a0 : Array Value) (hw : ∀ d ∈ tables_1, d.before a0 Z = true) (ws : List Jvm.Cond) (u0 : Addr) (kt : ClassId) (vs : List Value) (h0 : Heap) (n0 : Nat) (Z0 : n0 ≤ h0.size) (P_G_u0 : Arv Z h0 u0 kt .byte (2 : Int32) vs (.int 0)) :
    MetFree l own_y7 (head1 (Jvm.Cond.code own_y7 jdk_52_method_15_code 2 (some .byte) :: ws) ({ frames := 0, cells := 0, slots := 0, locals := 0 } : Room)) (fun a U => a = #[(.ref u0), (.int (2 : Int32))] ∧ Z.Warmed39 U.vm ∧ U.heap = h0) (fun _ _ _ _ _ => True) (fun _ U o U' => ∃ v L, o = .returned v ∧ own_QP (some (.int (0 : Int32))) h0 n0 v U'.heap L ∧ FrameEnd U o U' L ({ frames := 0, cells := 0, slots := 0, locals := 0 } : Room).cells ({ frames := 0, cells := 0, slots := 0, locals := 0 } : Room).slots) := by
  refine MetFree.of_bodySF (plainFor_of_name pn_12) hisR ?_
  intro p e s m args below meth c s₁ Bd hml0 hP hK
  obtain ⟨rfl, hZ, hh⟩ := hP
  have hx := Bd.exec
  have hby := Bd.bytes
  have hml : c.maxLocals = 2 := hml0
  have hown : s.vm.findClass "java/lang/StringUTF16" = some m.cls := findClass_of_methodNamed Bd.named
  have hnm := (name_of_methodNamed Bd.named Bd.method).1
  have X0 : Stand p l e ({ frames := 0, cells := 0, slots := 0, locals := 0 } : Room) s m #[(.ref u0), (.int (2 : Int32))] below meth c s₁ [] 0 0 := Stand.of_body Bd
  have e0 : s₁.heap = h0 := by rw [← hh, Bd.state]; rfl
  have N0 := Fr.nil n0
  have pre0 : ∀ t, Steps p.tables e below (s₁.setTop (mkF m 0 #[rv u0, iv (2 : Int32)] [])) t → Steps p.tables e below (s₁.setTop (entryFrame m #[(.ref u0), (.int (2 : Int32))] 2)) t := fun t k => castTop (ef_rmCF2_2 m u0 (2 : Int32)) k
  obtain ⟨cl1, Ar1, qq1, S1, N1_, H1, G1⟩ := id P_G_u0
  obtain ⟨fs, hr, hrun, hended, hW, hsame⟩ := X0.leave (v := some (.int (0 : Int32))) (fun h => by rw [Bd.returns] at h; cases h)
  refine ⟨_, _, pre0 _ ?_, hrun, hended, _, _, rfl, ?_, ⟨_, rfl⟩, hW, hsame.mono (by decide) (by decide)⟩
  · refine XS.iloadN X0.here hx rfl (hb hby d12_0) rfl ?_
    refine XS.aloadN X0.here hx rfl (hb hby d12_1) rfl rfl ?_
    refine X0.arraylength hx (by rw [e0]; exact Ar1.1) (State.isArrayOf_alike hZ.alike Ar1.2.1) (g := (mkF m 2 #[rv u0, iv (2 : Int32)] [(.ref u0), (.int (2 : Int32))])) rfl rfl (hb hby d12_2) _ ?_
    rw [len_of S1 N1_]
    refine XS.isub X0.here hx rfl (hb hby d12_3) rfl ?_
    refine XS.bipush X0.here hx rfl (hb hby d12_4) ?_
    refine XS.iushr X0.here hx rfl (hb hby d12_6) rfl ?_
    show Steps _ _ _ (s₁.setTop (mkF m 7 #[rv u0, iv (2 : Int32)] [(.int (((0 : Int32).toUInt32 >>> ((31 : Int32) &&& 31).toUInt32).toInt32))])) _
    rw [(by decide : (((0 : Int32).toUInt32 >>> ((31 : Int32) &&& 31).toUInt32).toInt32) = (0 : Int32))]
    refine XS.i2b X0.here hx rfl (hb hby d12_7) rfl ?_
    show Steps _ _ _ (s₁.setTop (mkF m 8 #[rv u0, iv (2 : Int32)] [(.int ((0 : Int32).toInt8.toInt32))])) _
    rw [(by decide : ((0 : Int32).toInt8.toInt32) = (0 : Int32))]
    show Steps _ _ _ (s₁.setTop (mkF m 8 #[rv u0, iv (2 : Int32)] [(.int (0 : Int32))])) _
    exact retN X0 hx (t := .byte) Bd.returns (by simp) (hb hby d12_8) hr
  · show own_QP (some (.int (0 : Int32))) h0 n0 _ s₁.heap _
    rw [e0]
    exact ⟨rfl, N0, rfl⟩

theorem ef_rmCF2_4 (m : MethodId) (x0 : Addr) (x1 : Int32) : entryFrame m #[(.ref x0), (.int x1)] 2 = mkF m 0 #[rv x0, iv x1] [] := by first | (simp [entryFrame, mkF, argsToLocals, Value.category]; done) | rfl
set_option maxRecDepth 65536 in
set_option maxHeartbeats 40000000 in
theorem rmCF2_4 (l : Launch) (Z : State) (a0 : Array Value) (hw : ∀ d ∈ tables_1, d.before a0 Z = true) (ws : List Jvm.Cond) (u0 : Addr) (kt : ClassId) (vs : List Value) (h0 : Heap) (n0 : Nat) (Z0 : n0 ≤ h0.size) (P_G_u0 : Arv Z h0 u0 kt .byte (4 : Int32) vs (.int 0)) :
    MetFree l own_y7 (head1 (Jvm.Cond.code own_y7 jdk_52_method_15_code 2 (some .byte) :: ws) ({ frames := 0, cells := 0, slots := 0, locals := 0 } : Room)) (fun a U => a = #[(.ref u0), (.int (2 : Int32))] ∧ Z.Warmed39 U.vm ∧ U.heap = h0) (fun _ _ _ _ _ => True) (fun _ U o U' => ∃ v L, o = .returned v ∧ own_QP (some (.int (1 : Int32))) h0 n0 v U'.heap L ∧ FrameEnd U o U' L ({ frames := 0, cells := 0, slots := 0, locals := 0 } : Room).cells ({ frames := 0, cells := 0, slots := 0, locals := 0 } : Room).slots) := by
  refine MetFree.of_bodySF (plainFor_of_name pn_12) hisR ?_
  intro p e s m args below meth c s₁ Bd hml0 hP hK
  obtain ⟨rfl, hZ, hh⟩ := hP
  have hx := Bd.exec
  have hby := Bd.bytes
  have hml : c.maxLocals = 2 := hml0
  have hown : s.vm.findClass "java/lang/StringUTF16" = some m.cls := findClass_of_methodNamed Bd.named
  have hnm := (name_of_methodNamed Bd.named Bd.method).1
  have X0 : Stand p l e ({ frames := 0, cells := 0, slots := 0, locals := 0 } : Room) s m #[(.ref u0), (.int (2 : Int32))] below meth c s₁ [] 0 0 := Stand.of_body Bd
  have e0 : s₁.heap = h0 := by rw [← hh, Bd.state]; rfl
  have N0 := Fr.nil n0
  have pre0 : ∀ t, Steps p.tables e below (s₁.setTop (mkF m 0 #[rv u0, iv (2 : Int32)] [])) t → Steps p.tables e below (s₁.setTop (entryFrame m #[(.ref u0), (.int (2 : Int32))] 2)) t := fun t k => castTop (ef_rmCF2_4 m u0 (2 : Int32)) k
  obtain ⟨cl1, Ar1, qq1, S1, N1_, H1, G1⟩ := id P_G_u0
  obtain ⟨fs, hr, hrun, hended, hW, hsame⟩ := X0.leave (v := some (.int (1 : Int32))) (fun h => by rw [Bd.returns] at h; cases h)
  refine ⟨_, _, pre0 _ ?_, hrun, hended, _, _, rfl, ?_, ⟨_, rfl⟩, hW, hsame.mono (by decide) (by decide)⟩
  · refine XS.iloadN X0.here hx rfl (hb hby d12_0) rfl ?_
    refine XS.aloadN X0.here hx rfl (hb hby d12_1) rfl rfl ?_
    refine X0.arraylength hx (by rw [e0]; exact Ar1.1) (State.isArrayOf_alike hZ.alike Ar1.2.1) (g := (mkF m 2 #[rv u0, iv (2 : Int32)] [(.ref u0), (.int (2 : Int32))])) rfl rfl (hb hby d12_2) _ ?_
    rw [len_of S1 N1_]
    refine XS.isub X0.here hx rfl (hb hby d12_3) rfl ?_
    refine XS.bipush X0.here hx rfl (hb hby d12_4) ?_
    refine XS.iushr X0.here hx rfl (hb hby d12_6) rfl ?_
    show Steps _ _ _ (s₁.setTop (mkF m 7 #[rv u0, iv (2 : Int32)] [(.int (((-2 : Int32).toUInt32 >>> ((31 : Int32) &&& 31).toUInt32).toInt32))])) _
    rw [(by decide : (((-2 : Int32).toUInt32 >>> ((31 : Int32) &&& 31).toUInt32).toInt32) = (1 : Int32))]
    refine XS.i2b X0.here hx rfl (hb hby d12_7) rfl ?_
    show Steps _ _ _ (s₁.setTop (mkF m 8 #[rv u0, iv (2 : Int32)] [(.int ((1 : Int32).toInt8.toInt32))])) _
    rw [(by decide : ((1 : Int32).toInt8.toInt32) = (1 : Int32))]
    show Steps _ _ _ (s₁.setTop (mkF m 8 #[rv u0, iv (2 : Int32)] [(.int (1 : Int32))])) _
    exact retN X0 hx (t := .byte) Bd.returns (by simp) (hb hby d12_8) hr
  · show own_QP (some (.int (1 : Int32))) h0 n0 _ s₁.heap _
    rw [e0]
    exact ⟨rfl, N0, rfl⟩

theorem ef_rmI4_2 (m : MethodId) (x0 : Addr) (x1 : Addr) (x2 : Int32) (x3 : Int32) : entryFrame m #[(.ref x0), (.ref x1), (.int x2), (.int x3), .null] 6 = mkF m 0 #[rv x0, rv x1, iv x2, iv x3, .val .null, .unset] [] := by first | (simp [entryFrame, mkF, argsToLocals, Value.category]; done) | rfl
def Q_rmI4_2 (Z : State) (u0 : Addr) (u1 : Addr) (kA : ClassId) (c0 : Int32) (c1 : Int32) (zC : Int32) (h0 : Heap) (n0 : Nat) (v : Option Value) (h : Heap) (L : List Loc) : Prop := ∃ (t : Addr), ∃ (kt : ClassId), ∃ (z : Int32), ∃ (vs : List Value), ∃ (cd : Int32), (v = none ∧ Fr n0 L ∧ Keep h0 h [u0] ∧ h0.size ≤ t ∧ Exa Z h u0 "java/lang/String" ∧ Fld Z h u0 "java/lang/String" "value" "[B" (.ref t) ∧ Fld Z h u0 "java/lang/String" "coder" "B" (.int cd) ∧ Arv Z h t kt .byte z vs (.int 0) ∧ (z >>> (cd &&& 31)) = (2 : Int32) ∧ (cd = 0 ∨ cd = 1))
set_option maxRecDepth 65536 in
set_option maxHeartbeats 40000000 in
theorem rmI4_2 (l : Launch) (Z : State) (a0 : Array Value) (hw : ∀ d ∈ tables_1, d.before a0 Z = true) (ws : List Jvm.Cond) (u0 : Addr) (u1 : Addr) (kA : ClassId) (c0 : Int32) (c1 : Int32) (zC : Int32) (h0 : Heap) (n0 : Nat) (Z0 : n0 ≤ h0.size) (P_E_u0 : Exa Z h0 u0 "java/lang/String") (P_F_u0_String_value : Fld Z h0 u0 "java/lang/String" "value" "[B" .null) (P_F_u0_String_coder : Fld Z h0 u0 "java/lang/String" "coder" "B" (.int (0 : Int32))) (P_V_u1 : Arv Z h0 u1 kA .char (2 : Int32) [(.int c0), (.int c1)] (.int (0 : Int32))) (neA : u0 ≠ u1) (hr0 : ¬ c0 < 0 ∧ ¬ (65535 : Int32) < c0) (hr1 : ¬ c1 < 0 ∧ ¬ (65535 : Int32) < c1) (P_S_StringUTF16__assertionsDisabled : Sta Z h0 "java/lang/StringUTF16" "$assertionsDisabled" "Z" (.int (1 : Int32))) (P_S_StringUTF16_HI_BYTE_SHIFT : Sta Z h0 "java/lang/StringUTF16" "HI_BYTE_SHIFT" "I" (.int (0 : Int32))) (P_S_StringUTF16_LO_BYTE_SHIFT : Sta Z h0 "java/lang/StringUTF16" "LO_BYTE_SHIFT" "I" (.int (8 : Int32))) (P_S_String_COMPACT_STRINGS : Sta Z h0 "java/lang/String" "COMPACT_STRINGS" "Z" (.int zC)) (hz : ¬ (zC = (0 : Int32))) (g_u0 : n0 ≤ u0) :
    MetFree l own_y8 (head1 (Jvm.Cond.code own_y8 jdk_42_method_149_code 6 none :: ws) ({ frames := 4, cells := 2, slots := 6, locals := 57 } : Room)) (fun a U => a = #[(.ref u0), (.ref u1), (.int (0 : Int32)), (.int (2 : Int32)), .null] ∧ Z.Warmed39 U.vm ∧ U.heap = h0) (fun _ _ _ _ _ => True) (fun _ U o U' => ∃ v L, o = .returned v ∧ Q_rmI4_2 Z u0 u1 kA c0 c1 zC h0 n0 v U'.heap L ∧ FrameEnd U o U' L ({ frames := 4, cells := 2, slots := 6, locals := 57 } : Room).cells ({ frames := 4, cells := 2, slots := 6, locals := 57 } : Room).slots) := by
  refine MetFree.of_bodySF (plainFor_of_name pn_3) hisR ?_
  intro p e s m args below meth c s₁ Bd hml0 hP hK
  obtain ⟨rfl, hZ, hh⟩ := hP
  have hx := Bd.exec
  have hby := Bd.bytes
  have hml : c.maxLocals = 6 := hml0
  have hown : s.vm.findClass "java/lang/String" = some m.cls := findClass_of_methodNamed Bd.named
  have hnm := (name_of_methodNamed Bd.named Bd.method).1
  have X0 : Stand p l e ({ frames := 4, cells := 2, slots := 6, locals := 57 } : Room) s m #[(.ref u0), (.ref u1), (.int (0 : Int32)), (.int (2 : Int32)), .null] below meth c s₁ [] 0 0 := Stand.of_body Bd
  have e0 : s₁.heap = h0 := by rw [← hh, Bd.state]; rfl
  have N0 := Fr.nil n0
  have pre0 : ∀ t, Steps p.tables e below (s₁.setTop (mkF m 0 #[rv u0, rv u1, iv (0 : Int32), iv (2 : Int32), .val .null, .unset] [])) t → Steps p.tables e below (s₁.setTop (entryFrame m #[(.ref u0), (.ref u1), (.int (0 : Int32)), (.int (2 : Int32)), .null] 6)) t := fun t k => castTop (ef_rmI4_2 m u0 u1 (0 : Int32) (2 : Int32)) k
  obtain ⟨T1, X1, e1, st1⟩ := initO X0 hx hZ hown (own_g hw 17 rfl) (own_g hw 18 rfl) (own_g hw 19 rfl) e0 (g := (mkF m 1 #[rv u0, rv u1, iv (0 : Int32), iv (2 : Int32), .val .null, .unset] [(.ref u0)])) rfl (by rw [hml]; rfl) rfl (hb hby d3_1) (by decide) (W := 0) (by show 2 * 0 + _ ≤ _; exact Nat.le_of_eq rfl) (by decide)
  obtain ⟨T2, X2, e2, st2⟩ := getS2 X1 hx hZ hown (host := "") (Or.inl (own_g hw 20 rfl)) Via.refl e1 P_S_String_COMPACT_STRINGS (g := (mkF m 27 #[rv u0, rv u1, iv (0 : Int32), iv (2 : Int32), .val .null, .unset] [])) rfl (hb hby d3_27)
  obtain ⟨_, _, ⟨T3, L3, k3, n3⟩, -, X3, ⟨Lc3, hQ3, l3, y3, z3⟩, st3⟩ := Jvm.LawKit.callS X2 hx (y := own_y6) hown (mvT hZ (own_g hw 21 rfl)) (mvT hZ (own_g hw 22 rfl)) (mvT hZ (own_g hw 23 rfl)) (mvT hZ (own_g hw 24 rfl)) (by decide) (backOf (W := 0) (rmC3_2 l Z a0 hw [] u1 kA c0 c1 h0 n0 Z0 P_S_StringUTF16__assertionsDisabled P_S_StringUTF16_HI_BYTE_SHIFT P_S_StringUTF16_LO_BYTE_SHIFT P_V_u1 hr0 hr1) hZ (own_g hw 24 rfl) (own_g hw 23 rfl) (by decide) (by decide)) (g := (mkF m 36 #[rv u0, rv u1, iv (0 : Int32), iv (2 : Int32), .val .null, .unset] [(.int (2 : Int32)), (.int (0 : Int32)), (.ref u1)])) rfl (by rw [hml]; rfl) (argsL := [(.ref u1), (.int (0 : Int32)), (.int (2 : Int32))]) (rest := []) (lenOf pd___CII__B rfl) rfl (by show 2 * 0 + _ ≤ _; exact Nat.le_of_eq rfl) (hb hby d3_36) (fun _ _ => ⟨rfl, e2, (by decide : 0 + 2 ≤ _), (by decide : 0 + 6 ≤ _)⟩)
  dsimp only [Pt.U, Pt.locs, Pt.cells, Pt.slots] at X3 l3 y3 z3 st3 hQ3
  subst l3 y3 z3
  obtain ⟨t_3, kt_3, z_3, vs_3, rfl, N3q, K3, sx3_0, f4, f5⟩ := hQ3
  have ot_3 : n0 ≤ t_3 := Nat.le_trans Z0 sx3_0
  have zt_3 : h0.size ≤ t_3 := Nat.le_trans (Keep.refl h0 [u0]).1 sx3_0
  have ne6 : u0 ≠ t_3 := Nat.ne_of_lt (Nat.lt_of_lt_of_le P_E_u0.lt sx3_0)
  have ne7 : u1 ≠ t_3 := Nat.ne_of_lt (Nat.lt_of_lt_of_le P_V_u1.lt sx3_0)
  have KK3 : Keep h0 T3.heap [u0] := Keep.trans (Keep.refl h0 [u0]) K3 all0
  have N3 := Fr.app N0 N3q
  have pre8 : ∀ t, Steps p.tables e below (T3.setTop (mkF m 39 #[rv u0, rv u1, iv (0 : Int32), iv (2 : Int32), .val .null, .unset] [(.ref t_3)])) t → Steps p.tables e below (s₁.setTop (entryFrame m #[(.ref u0), (.ref u1), (.int (0 : Int32)), (.int (2 : Int32)), .null] 6)) t := fun t kt => pre0 t (by
   refine XS.aloadN X0.here hx rfl (hb hby d3_0) rfl rfl ?_
   show Steps _ _ _ (s₁.setTop (mkF m 1 #[rv u0, rv u1, iv (0 : Int32), iv (2 : Int32), .val .null, .unset] [(.ref u0)])) _
   refine st1 _ ?_
   refine XS.iloadN X1.here hx rfl (hb hby d3_4) rfl ?_
   refine XS.ifYes X1.here hx rfl (pc0 := 5) (pc' := 27) rfl (hb hby d3_5) rfl ((if0 _ _).trans (feq (by decide : ¬ ((2 : Int32) = (0 : Int32)))).2) (by decide) (by decide) ?_
   refine st2 _ ?_
   refine XS.ifNo X2.here hx rfl (hb hby d3_30) rfl ((if0 _ _).trans (feq hz).1) ?_
   refine XS.aloadN X2.here hx rfl (hb hby d3_33) rfl rfl ?_
   refine XS.iloadN X2.here hx rfl (hb hby d3_34) rfl ?_
   refine XS.iloadN X2.here hx rfl (hb hby d3_35) rfl ?_
   show Steps _ _ _ (T2.setTop (mkF m 36 #[rv u0, rv u1, iv (0 : Int32), iv (2 : Int32), .val .null, .unset] [(.int (2 : Int32)), (.int (0 : Int32)), (.ref u1)])) _
   refine st3 _ ?_
   exact kt)
  rcases f5 with hd_ | hd_
  · subst hd_
    have f9 : n0 ≤ T3.heap.size := (Nat.le_trans Z0 K3.1)
    obtain ⟨_, _, ⟨T10, L10, k10, n10⟩, -, X10, ⟨Lc10, hQ10, l10, y10, z10⟩, st10⟩ := Jvm.LawKit.callS X3 hx (y := own_y7) hown (mvT hZ (own_g hw 48 rfl)) (mvT hZ (own_g hw 49 rfl)) (mvT hZ (own_g hw 23 rfl)) (mvT hZ (own_g hw 50 rfl)) (by decide) (backOf (W := 1) (rmCF2_2 l Z a0 hw [] t_3 kt_3 vs_3 T3.heap n0 f9 f4) hZ (own_g hw 50 rfl) (own_g hw 23 rfl) (by decide) (by decide)) (g := (mkF m 45 #[rv u0, rv u1, iv (0 : Int32), iv (2 : Int32), .val .null, rv t_3] [(.int (2 : Int32)), (.ref t_3), (.ref u0)])) rfl (by rw [hml]; rfl) (argsL := [(.ref t_3), (.int (2 : Int32))]) (rest := [(.ref u0)]) (lenOf pd___BI_B rfl) rfl (by show 2 * 0 + _ ≤ _; exact Nat.le_of_eq rfl) (hb hby d3_45) (fun _ _ => ⟨rfl, rfl, (by decide : 2 + 0 ≤ _), (by decide : 6 + 0 ≤ _)⟩)
    dsimp only [Pt.U, Pt.locs, Pt.cells, Pt.slots] at X10 l10 y10 z10 st10 hQ10
    subst l10 y10 z10
    obtain ⟨rfl, N10q, e10⟩ := hQ10
    have N10 := Fr.app N3 N10q
    have f11 : Exa Z T3.heap u0 "java/lang/String" := (P_E_u0.keep K3)
    have f12 : Fld Z T3.heap u0 "java/lang/String" "coder" "B" (.int (0 : Int32)) := (P_F_u0_String_coder.keep K3 nin0)
    obtain ⟨T13, h13, X13, e13, W13, st13⟩ := putFN X10 hx hZ hown (own_g hw 51 rfl) Via.refl e10 f12 f11 (Or.inr ⟨(own_g hw 52 rfl), rfl, hnm⟩) (own_g hw 7 rfl) (ty := .byte) (v' := (.int (0 : Int32))) (by decide) rfl rfl (g := (mkF m 48 #[rv u0, rv u1, iv (0 : Int32), iv (2 : Int32), .val .null, rv t_3] [(.int (0 : Int32)), (.ref u0)])) rfl rfl (hb hby d3_48)
    have f13_ : Fld Z h13 u0 "java/lang/String" "coder" "B" (.int (0 : Int32)) := f12.same W13
    have N14 := Fr.snoc X13 N10 g_u0
    have K15 : Keep h0 h13 [u0] := KK3.wr W13 (Or.inl (List.mem_of_getElem? (i := 0) rfl))
    have f16 : Exa Z h13 u0 "java/lang/String" := (f11.wr W13)
    have f17 : Fld Z h13 u0 "java/lang/String" "value" "[B" .null := ((P_F_u0_String_value.keep K3 nin0).other W13 (Or.inr (slot_ne (Or.inr (own_g hw 54 rfl)) (Or.inr (own_g hw 52 rfl)) (by decide) (t := (.array .byte)) (t' := .byte) (by decide) (by decide))))
    obtain ⟨T18, h18, X18, e18, W18, st18⟩ := putF X13 hx hZ hown (host := "") (Or.inl (own_g hw 53 rfl)) Via.refl e13 f17 f16 (Or.inr ⟨(own_g hw 54 rfl), rfl, hnm⟩) (own_g hw 7 rfl) (ty := (.array .byte)) (by decide) rfl rfl (g := (mkF m 54 #[rv u0, rv u1, iv (0 : Int32), iv (2 : Int32), .val .null, rv t_3] [(.ref t_3), (.ref u0)])) rfl rfl (hb hby d3_54)
    have f18_ : Fld Z h18 u0 "java/lang/String" "value" "[B" (.ref t_3) := f17.same W18
    have N19 := Fr.snoc X18 N14 g_u0
    have K20 : Keep h0 h18 [u0] := K15.wr W18 (Or.inl (List.mem_of_getElem? (i := 0) rfl))
    obtain ⟨fs, hr, hrun, hended, hW, hsame⟩ := X18.leave (v := none) (fun _ => rfl)
    have f21 : Exa Z h18 u0 "java/lang/String" := (f16.wr W18)
    have f22 : Fld Z h18 u0 "java/lang/String" "coder" "B" (.int (0 : Int32)) := (f13_.other W18 (Or.inr (slot_ne (Or.inr (own_g hw 52 rfl)) (Or.inr (own_g hw 54 rfl)) (by decide) (t := .byte) (t' := (.array .byte)) (by decide) (by decide))))
    have f23 : Arv Z h18 t_3 kt_3 .byte (2 : Int32) vs_3 (.int 0) := ((f4.other W13 (Ne.symm ne6)).other W18 (Ne.symm ne6))
    refine ⟨_, _, pre8 _ ?_, hrun, hended, _, _, rfl, ?_, ⟨_, rfl⟩, hW, hsame.mono (by decide) (by decide)⟩
    · refine XS.astore X3.here hx rfl (hb hby d3_39) rfl rfl (l' := #[rv u0, rv u1, iv (0 : Int32), iv (2 : Int32), .val .null, rv t_3]) rfl ?_
      refine XS.aloadN X3.here hx rfl (hb hby d3_41) rfl rfl ?_
      refine XS.aload X3.here hx rfl (hb hby d3_42) rfl rfl ?_
      refine XS.iloadN X3.here hx rfl (hb hby d3_44) rfl ?_
      show Steps _ _ _ (T3.setTop (mkF m 45 #[rv u0, rv u1, iv (0 : Int32), iv (2 : Int32), .val .null, rv t_3] [(.int (2 : Int32)), (.ref t_3), (.ref u0)])) _
      refine st10 _ ?_
      refine st13 _ ?_
      refine XS.aloadN X13.here hx rfl (hb hby d3_51) rfl rfl ?_
      refine XS.aload X13.here hx rfl (hb hby d3_52) rfl rfl ?_
      refine st18 _ ?_
      show Steps _ _ _ (T18.setTop (mkF m 57 #[rv u0, rv u1, iv (0 : Int32), iv (2 : Int32), .val .null, rv t_3] [])) _
      exact X18.returnOut hx Bd.returns (hb hby d3_57) hr
    · show Q_rmI4_2 Z u0 u1 kA c0 c1 zC h0 n0 _ T18.heap _
      rw [e18]
      exact ⟨t_3, kt_3, (2 : Int32), vs_3, (0 : Int32), rfl, N19, K20, zt_3, f21, f18_, f22, f23, (by decide), (by decide)⟩
  · subst hd_
    have f24 : n0 ≤ T3.heap.size := (Nat.le_trans Z0 K3.1)
    obtain ⟨_, _, ⟨T25, L25, k25, n25⟩, -, X25, ⟨Lc25, hQ25, l25, y25, z25⟩, st25⟩ := Jvm.LawKit.callS X3 hx (y := own_y7) hown (mvT hZ (own_g hw 48 rfl)) (mvT hZ (own_g hw 49 rfl)) (mvT hZ (own_g hw 23 rfl)) (mvT hZ (own_g hw 50 rfl)) (by decide) (backOf (W := 1) (rmCF2_4 l Z a0 hw [] t_3 kt_3 vs_3 T3.heap n0 f24 f4) hZ (own_g hw 50 rfl) (own_g hw 23 rfl) (by decide) (by decide)) (g := (mkF m 45 #[rv u0, rv u1, iv (0 : Int32), iv (2 : Int32), .val .null, rv t_3] [(.int (2 : Int32)), (.ref t_3), (.ref u0)])) rfl (by rw [hml]; rfl) (argsL := [(.ref t_3), (.int (2 : Int32))]) (rest := [(.ref u0)]) (lenOf pd___BI_B rfl) rfl (by show 2 * 0 + _ ≤ _; exact Nat.le_of_eq rfl) (hb hby d3_45) (fun _ _ => ⟨rfl, rfl, (by decide : 2 + 0 ≤ _), (by decide : 6 + 0 ≤ _)⟩)
    dsimp only [Pt.U, Pt.locs, Pt.cells, Pt.slots] at X25 l25 y25 z25 st25 hQ25
    subst l25 y25 z25
    obtain ⟨rfl, N25q, e25⟩ := hQ25
    have N25 := Fr.app N3 N25q
    have f26 : Exa Z T3.heap u0 "java/lang/String" := (P_E_u0.keep K3)
    have f27 : Fld Z T3.heap u0 "java/lang/String" "coder" "B" (.int (0 : Int32)) := (P_F_u0_String_coder.keep K3 nin0)
    obtain ⟨T28, h28, X28, e28, W28, st28⟩ := putFN X25 hx hZ hown (own_g hw 51 rfl) Via.refl e25 f27 f26 (Or.inr ⟨(own_g hw 52 rfl), rfl, hnm⟩) (own_g hw 7 rfl) (ty := .byte) (v' := (.int (1 : Int32))) (by decide) rfl rfl (g := (mkF m 48 #[rv u0, rv u1, iv (0 : Int32), iv (2 : Int32), .val .null, rv t_3] [(.int (1 : Int32)), (.ref u0)])) rfl rfl (hb hby d3_48)
    have f28_ : Fld Z h28 u0 "java/lang/String" "coder" "B" (.int (1 : Int32)) := f27.same W28
    have N29 := Fr.snoc X28 N25 g_u0
    have K30 : Keep h0 h28 [u0] := KK3.wr W28 (Or.inl (List.mem_of_getElem? (i := 0) rfl))
    have f31 : Exa Z h28 u0 "java/lang/String" := (f26.wr W28)
    have f32 : Fld Z h28 u0 "java/lang/String" "value" "[B" .null := ((P_F_u0_String_value.keep K3 nin0).other W28 (Or.inr (slot_ne (Or.inr (own_g hw 54 rfl)) (Or.inr (own_g hw 52 rfl)) (by decide) (t := (.array .byte)) (t' := .byte) (by decide) (by decide))))
    obtain ⟨T33, h33, X33, e33, W33, st33⟩ := putF X28 hx hZ hown (host := "") (Or.inl (own_g hw 53 rfl)) Via.refl e28 f32 f31 (Or.inr ⟨(own_g hw 54 rfl), rfl, hnm⟩) (own_g hw 7 rfl) (ty := (.array .byte)) (by decide) rfl rfl (g := (mkF m 54 #[rv u0, rv u1, iv (0 : Int32), iv (2 : Int32), .val .null, rv t_3] [(.ref t_3), (.ref u0)])) rfl rfl (hb hby d3_54)
    have f33_ : Fld Z h33 u0 "java/lang/String" "value" "[B" (.ref t_3) := f32.same W33
    have N34 := Fr.snoc X33 N29 g_u0
    have K35 : Keep h0 h33 [u0] := K30.wr W33 (Or.inl (List.mem_of_getElem? (i := 0) rfl))
    obtain ⟨fs, hr, hrun, hended, hW, hsame⟩ := X33.leave (v := none) (fun _ => rfl)
    have f36 : Exa Z h33 u0 "java/lang/String" := (f31.wr W33)
    have f37 : Fld Z h33 u0 "java/lang/String" "coder" "B" (.int (1 : Int32)) := (f28_.other W33 (Or.inr (slot_ne (Or.inr (own_g hw 52 rfl)) (Or.inr (own_g hw 54 rfl)) (by decide) (t := .byte) (t' := (.array .byte)) (by decide) (by decide))))
    have f38 : Arv Z h33 t_3 kt_3 .byte (4 : Int32) vs_3 (.int 0) := ((f4.other W28 (Ne.symm ne6)).other W33 (Ne.symm ne6))
    refine ⟨_, _, pre8 _ ?_, hrun, hended, _, _, rfl, ?_, ⟨_, rfl⟩, hW, hsame.mono (by decide) (by decide)⟩
    · refine XS.astore X3.here hx rfl (hb hby d3_39) rfl rfl (l' := #[rv u0, rv u1, iv (0 : Int32), iv (2 : Int32), .val .null, rv t_3]) rfl ?_
      refine XS.aloadN X3.here hx rfl (hb hby d3_41) rfl rfl ?_
      refine XS.aload X3.here hx rfl (hb hby d3_42) rfl rfl ?_
      refine XS.iloadN X3.here hx rfl (hb hby d3_44) rfl ?_
      show Steps _ _ _ (T3.setTop (mkF m 45 #[rv u0, rv u1, iv (0 : Int32), iv (2 : Int32), .val .null, rv t_3] [(.int (2 : Int32)), (.ref t_3), (.ref u0)])) _
      refine st25 _ ?_
      refine st28 _ ?_
      refine XS.aloadN X28.here hx rfl (hb hby d3_51) rfl rfl ?_
      refine XS.aload X28.here hx rfl (hb hby d3_52) rfl rfl ?_
      show Steps _ _ _ (T28.setTop (mkF m 54 #[rv u0, rv u1, iv (0 : Int32), iv (2 : Int32), .val .null, rv t_3] [(.ref t_3), (.ref u0)])) _
      refine st33 _ ?_
      show Steps _ _ _ (T33.setTop (mkF m 57 #[rv u0, rv u1, iv (0 : Int32), iv (2 : Int32), .val .null, rv t_3] [])) _
      exact X33.returnOut hx Bd.returns (hb hby d3_57) hr
    · show Q_rmI4_2 Z u0 u1 kA c0 c1 zC h0 n0 _ T33.heap _
      rw [e33]
      exact ⟨t_3, kt_3, (4 : Int32), vs_3, (1 : Int32), rfl, N34, K35, zt_3, f36, f33_, f37, f38, (by decide), (by decide)⟩

theorem ef_rmI1_2 (m : MethodId) (x0 : Addr) (x1 : Addr) : entryFrame m #[(.ref x0), (.ref x1)] 2 = mkF m 0 #[rv x0, rv x1] [] := by first | (simp [entryFrame, mkF, argsToLocals, Value.category]; done) | rfl
def Q_rmI1_2 (Z : State) (u0 : Addr) (u1 : Addr) (kA : ClassId) (c0 : Int32) (c1 : Int32) (zC : Int32) (h0 : Heap) (n0 : Nat) (v : Option Value) (h : Heap) (L : List Loc) : Prop := ∃ (t : Addr), ∃ (kt : ClassId), ∃ (z : Int32), ∃ (vs : List Value), ∃ (cd : Int32), (v = none ∧ Fr n0 L ∧ Keep h0 h [u0] ∧ h0.size ≤ t ∧ Exa Z h u0 "java/lang/String" ∧ Fld Z h u0 "java/lang/String" "value" "[B" (.ref t) ∧ Fld Z h u0 "java/lang/String" "coder" "B" (.int cd) ∧ Arv Z h t kt .byte z vs (.int 0) ∧ (z >>> (cd &&& 31)) = (2 : Int32) ∧ (cd = 0 ∨ cd = 1))
set_option maxRecDepth 65536 in
set_option maxHeartbeats 40000000 in
theorem rmI1_2 (l : Launch) (Z : State) (a0 : Array Value) (hw : ∀ d ∈ tables_1, d.before a0 Z = true) (ws : List Jvm.Cond) (u0 : Addr) (u1 : Addr) (kA : ClassId) (c0 : Int32) (c1 : Int32) (zC : Int32) (h0 : Heap) (n0 : Nat) (Z0 : n0 ≤ h0.size) (P_E_u0 : Exa Z h0 u0 "java/lang/String") (P_F_u0_String_value : Fld Z h0 u0 "java/lang/String" "value" "[B" .null) (P_F_u0_String_coder : Fld Z h0 u0 "java/lang/String" "coder" "B" (.int (0 : Int32))) (P_V_u1 : Arv Z h0 u1 kA .char (2 : Int32) [(.int c0), (.int c1)] (.int (0 : Int32))) (neA : u0 ≠ u1) (hr0 : ¬ c0 < 0 ∧ ¬ (65535 : Int32) < c0) (hr1 : ¬ c1 < 0 ∧ ¬ (65535 : Int32) < c1) (P_S_StringUTF16__assertionsDisabled : Sta Z h0 "java/lang/StringUTF16" "$assertionsDisabled" "Z" (.int (1 : Int32))) (P_S_StringUTF16_HI_BYTE_SHIFT : Sta Z h0 "java/lang/StringUTF16" "HI_BYTE_SHIFT" "I" (.int (0 : Int32))) (P_S_StringUTF16_LO_BYTE_SHIFT : Sta Z h0 "java/lang/StringUTF16" "LO_BYTE_SHIFT" "I" (.int (8 : Int32))) (P_S_String_COMPACT_STRINGS : Sta Z h0 "java/lang/String" "COMPACT_STRINGS" "Z" (.int zC)) (hz : ¬ (zC = (0 : Int32))) (g_u0 : n0 ≤ u0) :
    MetFree l own_y9 (head1 (Jvm.Cond.code own_y9 jdk_42_method_3_code 2 none :: ws) ({ frames := 5, cells := 2, slots := 6, locals := 74 } : Room)) (fun a U => a = #[(.ref u0), (.ref u1)] ∧ Z.Warmed39 U.vm ∧ U.heap = h0) (fun _ _ _ _ _ => True) (fun _ U o U' => ∃ v L, o = .returned v ∧ Q_rmI1_2 Z u0 u1 kA c0 c1 zC h0 n0 v U'.heap L ∧ FrameEnd U o U' L ({ frames := 5, cells := 2, slots := 6, locals := 74 } : Room).cells ({ frames := 5, cells := 2, slots := 6, locals := 74 } : Room).slots) := by
  refine MetFree.of_bodySF (plainFor_of_name pn_2) hisR ?_
  intro p e s m args below meth c s₁ Bd hml0 hP hK
  obtain ⟨rfl, hZ, hh⟩ := hP
  have hx := Bd.exec
  have hby := Bd.bytes
  have hml : c.maxLocals = 2 := hml0
  have hown : s.vm.findClass "java/lang/String" = some m.cls := findClass_of_methodNamed Bd.named
  have hnm := (name_of_methodNamed Bd.named Bd.method).1
  have X0 : Stand p l e ({ frames := 5, cells := 2, slots := 6, locals := 74 } : Room) s m #[(.ref u0), (.ref u1)] below meth c s₁ [] 0 0 := Stand.of_body Bd
  have e0 : s₁.heap = h0 := by rw [← hh, Bd.state]; rfl
  have N0 := Fr.nil n0
  have pre0 : ∀ t, Steps p.tables e below (s₁.setTop (mkF m 0 #[rv u0, rv u1] [])) t → Steps p.tables e below (s₁.setTop (entryFrame m #[(.ref u0), (.ref u1)] 2)) t := fun t k => castTop (ef_rmI1_2 m u0 u1) k
  obtain ⟨cl1, Ar1, qq1, S1, N1_, H1, G1⟩ := id P_V_u1
  obtain ⟨_, _, ⟨T2, L2, k2, n2⟩, -, X2, ⟨Lc2, hQ2, l2, y2, z2⟩, st2⟩ := X0.specialBack hx (y := own_y8) rfl hown (mvT hZ (own_g hw 13 rfl)) (mvT hZ (own_g hw 14 rfl)) (mvT hZ (own_g hw 16 rfl)) (by decide) (backOf (W := 0) (rmI4_2 l Z a0 hw [] u0 u1 kA c0 c1 zC h0 n0 Z0 P_E_u0 P_F_u0_String_value P_F_u0_String_coder P_V_u1 neA hr0 hr1 P_S_StringUTF16__assertionsDisabled P_S_StringUTF16_HI_BYTE_SHIFT P_S_StringUTF16_LO_BYTE_SHIFT P_S_String_COMPACT_STRINGS hz g_u0) hZ (own_g hw 16 rfl) (own_g hw 8 rfl) (by decide) (by decide)) (g := (mkF m 6 #[rv u0, rv u1] [.null, (.int (2 : Int32)), (.int (0 : Int32)), (.ref u1), (.ref u0)])) rfl (by rw [hml]; rfl) (Steps.refl _) (a := u0) (argsL := [(.ref u1), (.int (0 : Int32)), (.int (2 : Int32)), .null]) (rest := []) (lenOf pd___CIILjava_lang_Void__V rfl) rfl (by show 2 * 0 + _ ≤ _; exact Nat.le_of_eq rfl) (hb hby d2_6) (fun _ _ => ⟨rfl, e0, (by decide : 0 + 2 ≤ _), (by decide : 0 + 6 ≤ _)⟩)
  dsimp only [Pt.U, Pt.locs, Pt.cells, Pt.slots] at X2 l2 y2 z2 st2 hQ2
  subst l2 y2 z2
  obtain ⟨t_2, kt_2, z_2, vs_2, cd_2, rfl, N2q, K2, sx2_0, f3, f4, f5, f6, f7, f8⟩ := hQ2
  have ot_2 : n0 ≤ t_2 := Nat.le_trans Z0 sx2_0
  have zt_2 : h0.size ≤ t_2 := Nat.le_trans (Keep.refl h0 [u0]).1 sx2_0
  have ne9 : u0 ≠ t_2 := Nat.ne_of_lt (Nat.lt_of_lt_of_le P_E_u0.lt sx2_0)
  have ne10 : u1 ≠ t_2 := Nat.ne_of_lt (Nat.lt_of_lt_of_le P_V_u1.lt sx2_0)
  have KK2 : Keep h0 T2.heap [u0] := Keep.trans (Keep.refl h0 [u0]) K2 (allS (Or.inl (List.mem_of_getElem? (i := 0) rfl)) all0)
  have N2 := Fr.app N0 N2q
  obtain ⟨fs, hr, hrun, hended, hW, hsame⟩ := X2.leave (v := none) (fun _ => rfl)
  refine ⟨_, _, pre0 _ ?_, hrun, hended, _, _, rfl, ?_, ⟨_, rfl⟩, hW, hsame.mono (by decide) (by decide)⟩
  · refine XS.aloadN X0.here hx rfl (hb hby d2_0) rfl rfl ?_
    refine XS.aloadN X0.here hx rfl (hb hby d2_1) rfl rfl ?_
    refine XS.iconst X0.here hx rfl (hb hby d2_2) ?_
    refine XS.aloadN X0.here hx rfl (hb hby d2_3) rfl rfl ?_
    refine X0.arraylength hx (by rw [e0]; exact Ar1.1) (State.isArrayOf_alike hZ.alike Ar1.2.1) (g := (mkF m 4 #[rv u0, rv u1] [(.ref u1), (.int (0 : Int32)), (.ref u1), (.ref u0)])) rfl rfl (hb hby d2_4) _ ?_
    rw [len_of S1 N1_]
    refine XS.aconstNull X0.here hx rfl (hb hby d2_5) ?_
    show Steps _ _ _ (s₁.setTop (mkF m 6 #[rv u0, rv u1] [.null, (.int (2 : Int32)), (.int (0 : Int32)), (.ref u1), (.ref u0)])) _
    refine st2.trans ?_
    show Steps _ _ _ (T2.setTop (mkF m 9 #[rv u0, rv u1] [])) _
    exact X2.returnOut hx Bd.returns (hb hby d2_9) hr
  · show Q_rmI1_2 Z u0 u1 kA c0 c1 zC h0 n0 _ T2.heap _
    exact ⟨t_2, kt_2, z_2, vs_2, cd_2, rfl, N2, KK2, zt_2, f3, f4, f5, f6, f7, f8⟩

theorem ef_rmMk_2 (m : MethodId) (x0 : Int32) (x1 : Int32) (x2 : Int32) (x3 : Int32) (x4 : Int32) : entryFrame m #[(.int x0), (.int x1), (.int x2), (.int x3), (.int x4)] 5 = mkF m 0 #[iv x0, iv x1, iv x2, iv x3, iv x4] [] := by first | (simp [entryFrame, mkF, argsToLocals, Value.category]; done) | rfl
def Q_rmMk_2 (Z : State) (p1 : Int32) (p2 : Int32) (p3 : Int32) (p4 : Int32) (zC : Int32) (h0 : Heap) (n0 : Nat) (v : Option Value) (h : Heap) (L : List Loc) : Prop := ∃ (sg : Addr), ∃ (t : Addr), ∃ (kt : ClassId), ∃ (z : Int32), ∃ (vs : List Value), ∃ (cd : Int32), (v = (some (.ref sg)) ∧ Fr n0 L ∧ Keep h0 h [] ∧ h0.size ≤ sg ∧ h0.size ≤ t ∧ sg ≠ t ∧ Exa Z h sg "java/lang/String" ∧ Fld Z h sg "java/lang/String" "value" "[B" (.ref t) ∧ Fld Z h sg "java/lang/String" "coder" "B" (.int cd) ∧ Arv Z h t kt .byte z vs (.int 0) ∧ (z >>> (cd &&& 31)) = (2 : Int32) ∧ (cd = 0 ∨ cd = 1))
set_option maxRecDepth 65536 in
set_option maxHeartbeats 40000000 in
theorem rmMk_2 (l : Launch) (Z : State) (a0 : Array Value) (hw : ∀ d ∈ tables_1, d.before a0 Z = true) (ws : List Jvm.Cond) (p1 : Int32) (p2 : Int32) (p3 : Int32) (p4 : Int32) (zC : Int32) (h0 : Heap) (n0 : Nat) (Z0 : n0 ≤ h0.size) (P_S_StringUTF16__assertionsDisabled : Sta Z h0 "java/lang/StringUTF16" "$assertionsDisabled" "Z" (.int (1 : Int32))) (P_S_StringUTF16_HI_BYTE_SHIFT : Sta Z h0 "java/lang/StringUTF16" "HI_BYTE_SHIFT" "I" (.int (0 : Int32))) (P_S_StringUTF16_LO_BYTE_SHIFT : Sta Z h0 "java/lang/StringUTF16" "LO_BYTE_SHIFT" "I" (.int (8 : Int32))) (P_S_String_COMPACT_STRINGS : Sta Z h0 "java/lang/String" "COMPACT_STRINGS" "Z" (.int zC)) (hz : ¬ (zC = (0 : Int32))) :
    MetFree l own_y10 (head1 (Jvm.Cond.code own_y10 method_3_code 5 (some (.object "java/lang/String")) :: ws) ({ frames := 6, cells := 4, slots := 12, locals := 88 } : Room)) (fun a U => a = #[(.int (2 : Int32)), (.int p1), (.int p2), (.int p3), (.int p4)] ∧ Z.Warmed39 U.vm ∧ U.heap = h0) (fun _ _ _ _ _ => True) (fun _ U o U' => ∃ v L, o = .returned v ∧ Q_rmMk_2 Z p1 p2 p3 p4 zC h0 n0 v U'.heap L ∧ FrameEnd U o U' L ({ frames := 6, cells := 4, slots := 12, locals := 88 } : Room).cells ({ frames := 6, cells := 4, slots := 12, locals := 88 } : Room).slots) := by
  refine MetFree.of_bodySF (plainFor_of_name pn_1) hisR ?_
  intro p e s m args below meth c s₁ Bd hml0 hP hK
  obtain ⟨rfl, hZ, hh⟩ := hP
  have hx := Bd.exec
  have hby := Bd.bytes
  have hml : c.maxLocals = 5 := hml0
  have hown : s.vm.findClass "com/example/apq/apq/jpql/TokenEndPinLaw" = some m.cls := findClass_of_methodNamed Bd.named
  have hnm := (name_of_methodNamed Bd.named Bd.method).1
  have X0 : Stand p l e ({ frames := 6, cells := 4, slots := 12, locals := 88 } : Room) s m #[(.int (2 : Int32)), (.int p1), (.int p2), (.int p3), (.int p4)] below meth c s₁ [] 0 0 := Stand.of_body Bd
  have e0 : s₁.heap = h0 := by rw [← hh, Bd.state]; rfl
  have N0 := Fr.nil n0
  have pre0 : ∀ t, Steps p.tables e below (s₁.setTop (mkF m 0 #[iv (2 : Int32), iv p1, iv p2, iv p3, iv p4] [])) t → Steps p.tables e below (s₁.setTop (entryFrame m #[(.int (2 : Int32)), (.int p1), (.int p2), (.int p3), (.int p4)] 5)) t := fun t k => castTop (ef_rmMk_2 m (2 : Int32) p1 p2 p3 p4) k
  obtain ⟨T1, h1, X1, e1, E1, A1, D1, U1, st1⟩ := newO X0 hx hZ hown (own_g hw 6 rfl) (own_g hw 7 rfl) (own_g hw 8 rfl) e0 (g := (mkF m 40 #[iv (2 : Int32), iv p1, iv p2, iv p3, iv p4] [])) rfl (hb hby d1_40) (by decide) (by decide)
  obtain ⟨b1, g1⟩ : ∃ z, z = h0.size := ⟨_, rfl⟩
  rw [← g1] at A1 D1 U1 st1
  have o1 : n0 ≤ b1 := Nat.le_trans Z0 (Nat.le_of_eq g1.symm)
  have z1 : h0.size ≤ b1 := Nat.le_trans (Keep.refl h0 []).1 (Nat.le_of_eq g1.symm)
  have K1 : Keep h0 h1 [] := (Keep.refl h0 []).ext E1
  have f2 : Fld Z h1 b1 "java/lang/String" "coder" "B" (.int (0 : Int32)) := D1 (Or.inr (own_g hw 52 rfl)) (ty := .byte) (by decide)
  have f3 : Fld Z h1 b1 "java/lang/String" "value" "[B" .null := D1 (Or.inr (own_g hw 54 rfl)) (ty := (.array .byte)) (by decide)
  have f4 : n0 ≤ h1.size := (Nat.le_trans Z0 E1.1)
  obtain ⟨T5, h5, k5, X5, e5, E5, A5, st5⟩ := newP X1 hx hZ (own_g hw 9 rfl) e1 (g := (mkF m 45 #[iv (2 : Int32), iv p1, iv p2, iv p3, iv p4] [(.int (2 : Int32)), (.ref b1), (.ref b1)])) rfl (hb hby d1_45) rfl (by decide) (cap := 2) (by decide) (by decide) (by decide) (by decide)
  obtain ⟨b5, g5⟩ : ∃ z, z = h1.size := ⟨_, rfl⟩
  rw [← g5] at A5 st5
  have ne6 : b1 ≠ b5 := Nat.ne_of_lt (Nat.lt_of_lt_of_le A1.lt (Nat.le_of_eq g5.symm))
  have o5 : n0 ≤ b5 := Nat.le_trans f4 (Nat.le_of_eq g5.symm)
  have z5 : h0.size ≤ b5 := Nat.le_trans K1.1 (Nat.le_of_eq g5.symm)
  have K5 : Keep h0 h5 [] := K1.ext E5
  have V5 : Arv Z h5 b5 k5 .char (2 : Int32) [(.int (0 : Int32)), (.int (0 : Int32))] (.int (0 : Int32)) := (Arv.new A5 (by decide)).pad (pad_rep [] (.int (0 : Int32)) 2)
  obtain ⟨cl7, Ar7, qq7, S7, N7_, H7, G7⟩ := id V5
  have hin7 : ¬ ((0 : Int32) < 0 ∨ cl7.slots.size ≤ ((0 : Int32)).toNatClampNeg) := inb_of S7 ⟨by decide, by decide⟩
  obtain ⟨T8, h8, X8, e8, W8, st8⟩ := stC X5 hx hZ e5 Ar7 (j := (0 : Int32)) hin7 (g := (mkF m 50 #[iv (2 : Int32), iv p1, iv p2, iv p3, iv p4] [(.int p1), (.int (0 : Int32)), (.ref b5), (.ref b5), (.ref b1), (.ref b1)])) rfl rfl (hb hby d1_50)
  have V8 : Arv Z h8 b5 k5 .char (2 : Int32) [(.int (nar .char p1)), (.int (0 : Int32))] (.int (0 : Int32)) := Arv.set Ar7 qq7 S7 N7_ H7 G7 (fits_nar_char _) W8 0 rfl (Nat.le_of_ble_eq_true rfl)
  have N9 := Fr.snoc X8 N0 o5
  have K10 : Keep h0 h8 [] := K5.wr W8 (Or.inr z5)
  obtain ⟨cl11, Ar11, qq11, S11, N11_, H11, G11⟩ := id V8
  have hin11 : ¬ ((1 : Int32) < 0 ∨ cl11.slots.size ≤ ((1 : Int32)).toNatClampNeg) := inb_of S11 ⟨by decide, by decide⟩
  obtain ⟨T12, h12, X12, e12, W12, st12⟩ := stC X8 hx hZ e8 Ar11 (j := (1 : Int32)) hin11 (g := (mkF m 54 #[iv (2 : Int32), iv p1, iv p2, iv p3, iv p4] [(.int p2), (.int (1 : Int32)), (.ref b5), (.ref b5), (.ref b1), (.ref b1)])) rfl rfl (hb hby d1_54)
  have V12 : Arv Z h12 b5 k5 .char (2 : Int32) [(.int (nar .char p1)), (.int (nar .char p2))] (.int (0 : Int32)) := Arv.set Ar11 qq11 S11 N11_ H11 G11 (fits_nar_char _) W12 1 rfl (Nat.le_of_ble_eq_true rfl)
  have N13 := Fr.snoc X12 N9 o5
  have K14 : Keep h0 h12 [] := K10.wr W12 (Or.inr z5)
  have f15 : Exa Z h12 b1 "java/lang/String" := (((A1.ext E5).wr W8).wr W12)
  have f16 : Fld Z h12 b1 "java/lang/String" "value" "[B" .null := (((f3.ext E5).other W8 (Or.inl ne6)).other W12 (Or.inl ne6))
  have f17 : Fld Z h12 b1 "java/lang/String" "coder" "B" (.int (0 : Int32)) := (((f2.ext E5).other W8 (Or.inl ne6)).other W12 (Or.inl ne6))
  have f18 : Sta Z h12 "java/lang/StringUTF16" "$assertionsDisabled" "Z" (.int (1 : Int32)) := ((((P_S_StringUTF16__assertionsDisabled.ext E1).ext E5).wr W8).wr W12)
  have f19 : Sta Z h12 "java/lang/StringUTF16" "HI_BYTE_SHIFT" "I" (.int (0 : Int32)) := ((((P_S_StringUTF16_HI_BYTE_SHIFT.ext E1).ext E5).wr W8).wr W12)
  have f20 : Sta Z h12 "java/lang/StringUTF16" "LO_BYTE_SHIFT" "I" (.int (8 : Int32)) := ((((P_S_StringUTF16_LO_BYTE_SHIFT.ext E1).ext E5).wr W8).wr W12)
  have f21 : Sta Z h12 "java/lang/String" "COMPACT_STRINGS" "Z" (.int zC) := ((((P_S_String_COMPACT_STRINGS.ext E1).ext E5).wr W8).wr W12)
  have f22 : n0 ≤ h12.size := (Nat.le_trans (Nat.le_trans (Nat.le_trans f4 E5.1) (Keep.of_wr W8).1) (Keep.of_wr W12).1)
  obtain ⟨_, _, ⟨T23, L23, k23, n23⟩, -, X23, ⟨Lc23, hQ23, l23, y23, z23⟩, st23⟩ := X12.specialBack hx (y := own_y9) rfl hown (mvT hZ (own_g hw 10 rfl)) (mvT hZ (own_g hw 11 rfl)) (mvT hZ (own_g hw 12 rfl)) (by decide) (backOf (W := 1) (rmI1_2 l Z a0 hw [] b1 b5 k5 (nar .char p1) (nar .char p2) zC h12 n0 f22 f15 f16 f17 V12 ne6 (own_nr p1) (own_nr p2) f18 f19 f20 f21 hz o1) hZ (own_g hw 12 rfl) (own_g hw 8 rfl) (by decide) (by decide)) (g := (mkF m 55 #[iv (2 : Int32), iv p1, iv p2, iv p3, iv p4] [(.ref b5), (.ref b1), (.ref b1)])) rfl (by rw [hml]; rfl) (Steps.refl _) (a := b1) (argsL := [(.ref b5)]) (rest := [(.ref b1)]) (lenOf pd___C_V rfl) rfl (by show 2 * 0 + _ ≤ _; exact Nat.le_of_eq rfl) (hb hby d1_55) (fun _ _ => ⟨rfl, e12, (by decide : 2 + 2 ≤ _), (by decide : 6 + 6 ≤ _)⟩)
  dsimp only [Pt.U, Pt.locs, Pt.cells, Pt.slots] at X23 l23 y23 z23 st23 hQ23
  subst l23 y23 z23
  obtain ⟨t_23, kt_23, z_23, vs_23, cd_23, rfl, N23q, K23, sx23_0, f24, f25, f26, f27, f28, f29⟩ := hQ23
  have ot_23 : n0 ≤ t_23 := Nat.le_trans f22 sx23_0
  have zt_23 : h0.size ≤ t_23 := Nat.le_trans K14.1 sx23_0
  have ne30 : b1 ≠ t_23 := Nat.ne_of_lt (Nat.lt_of_lt_of_le f15.lt sx23_0)
  have ne31 : b5 ≠ t_23 := Nat.ne_of_lt (Nat.lt_of_lt_of_le V12.lt sx23_0)
  have KK23 : Keep h0 T23.heap [] := Keep.trans K14 K23 (allS (Or.inr z1) all0)
  have N23 := Fr.app N13 N23q
  obtain ⟨fs, hr, hrun, hended, hW, hsame⟩ := X23.leave (v := some (.ref b1)) (fun h => by rw [Bd.returns] at h; cases h)
  refine ⟨_, _, pre0 _ ?_, hrun, hended, _, _, rfl, ?_, ⟨_, rfl⟩, hW, hsame.mono (by decide) (by decide)⟩
  · refine XS.iloadN X0.here hx rfl (hb hby d1_0) rfl ?_
    refine XS.ifYes X0.here hx rfl (pc0 := 1) (pc' := 15) rfl (hb hby d1_1) rfl ((if0 _ _).trans (feq (by decide : ¬ ((2 : Int32) = (0 : Int32)))).2) (by decide) (by decide) ?_
    refine XS.iloadN X0.here hx rfl (hb hby d1_15) rfl ?_
    refine XS.iconst X0.here hx rfl (hb hby d1_16) ?_
    refine XS.icmpYes X0.here hx rfl (pc0 := 17) (pc' := 35) rfl (hb hby d1_17) rfl (feq (by decide : ¬ ((2 : Int32) = (1 : Int32)))).2 (by decide) (by decide) ?_
    refine XS.iloadN X0.here hx rfl (hb hby d1_35) rfl ?_
    refine XS.iconst X0.here hx rfl (hb hby d1_36) ?_
    refine XS.icmpNo X0.here hx rfl (hb hby d1_37) rfl (teq (by decide : (2 : Int32) = (2 : Int32))).2 ?_
    refine st1 _ ?_
    refine XS.dup X1.here hx rfl (hb hby d1_43) rfl rfl ?_
    refine XS.iconst X1.here hx rfl (hb hby d1_44) ?_
    refine st5 _ ?_
    refine XS.dup X5.here hx rfl (hb hby d1_47) rfl rfl ?_
    refine XS.iconst X5.here hx rfl (hb hby d1_48) ?_
    refine XS.iloadN X5.here hx rfl (hb hby d1_49) rfl ?_
    refine st8 _ ?_
    refine XS.dup X8.here hx rfl (hb hby d1_51) rfl rfl ?_
    refine XS.iconst X8.here hx rfl (hb hby d1_52) ?_
    refine XS.iloadN X8.here hx rfl (hb hby d1_53) rfl ?_
    refine st12 _ ?_
    show Steps _ _ _ (T12.setTop (mkF m 55 #[iv (2 : Int32), iv p1, iv p2, iv p3, iv p4] [(.ref b5), (.ref b1), (.ref b1)])) _
    refine st23.trans ?_
    show Steps _ _ _ (T23.setTop (mkF m 58 #[iv (2 : Int32), iv p1, iv p2, iv p3, iv p4] [(.ref b1)])) _
    exact retOut X23 hx Bd.returns rfl (Or.inr (Or.inr (Or.inr (Or.inr ⟨rfl, rfl, rfl⟩)))) (hb hby d1_58) hr
  · show Q_rmMk_2 Z p1 p2 p3 p4 zC h0 n0 _ T23.heap _
    exact ⟨b1, t_23, kt_23, z_23, vs_23, cd_23, rfl, N23, KK23, z1, zt_23, ne30, f24, f25, f26, f27, f28, f29⟩

theorem ef_rmNL3 (m : MethodId) (x0 : Int32) : entryFrame m #[(.int x0)] 1 = mkF m 0 #[iv x0] [] := by first | (simp [entryFrame, mkF, argsToLocals, Value.category]; done) | rfl
set_option maxRecDepth 65536 in
set_option maxHeartbeats 40000000 in
theorem rmNL3 (l : Launch) (Z : State) (a0 : Array Value) (hw : ∀ d ∈ tables_1, d.before a0 Z = true) (ws : List Jvm.Cond)  (h0 : Heap) (n0 : Nat) (Z0 : n0 ≤ h0.size) :
    MetFree l own_y0 (head1 (Jvm.Cond.code own_y0 jdk_52_method_3_code 1 (some .int) :: ws) ({ frames := 0, cells := 0, slots := 0, locals := 0 } : Room)) (fun a U => a = #[(.int (3 : Int32))] ∧ Z.Warmed39 U.vm ∧ U.heap = h0) (fun _ _ _ _ _ => True) (fun _ U o U' => ∃ v L, o = .returned v ∧ own_QP (some (.int (6 : Int32))) h0 n0 v U'.heap L ∧ FrameEnd U o U' L ({ frames := 0, cells := 0, slots := 0, locals := 0 } : Room).cells ({ frames := 0, cells := 0, slots := 0, locals := 0 } : Room).slots) := by
  refine MetFree.of_bodySF (plainFor_of_name pn_9) hisR ?_
  intro p e s m args below meth c s₁ Bd hml0 hP hK
  obtain ⟨rfl, hZ, hh⟩ := hP
  have hx := Bd.exec
  have hby := Bd.bytes
  have hml : c.maxLocals = 1 := hml0
  have hown : s.vm.findClass "java/lang/StringUTF16" = some m.cls := findClass_of_methodNamed Bd.named
  have hnm := (name_of_methodNamed Bd.named Bd.method).1
  have X0 : Stand p l e ({ frames := 0, cells := 0, slots := 0, locals := 0 } : Room) s m #[(.int (3 : Int32))] below meth c s₁ [] 0 0 := Stand.of_body Bd
  have e0 : s₁.heap = h0 := by rw [← hh, Bd.state]; rfl
  have N0 := Fr.nil n0
  have pre0 : ∀ t, Steps p.tables e below (s₁.setTop (mkF m 0 #[iv (3 : Int32)] [])) t → Steps p.tables e below (s₁.setTop (entryFrame m #[(.int (3 : Int32))] 1)) t := fun t k => castTop (ef_rmNL3 m (3 : Int32)) k
  obtain ⟨fs, hr, hrun, hended, hW, hsame⟩ := X0.leave (v := some (.int (6 : Int32))) (fun h => by rw [Bd.returns] at h; cases h)
  refine ⟨_, _, pre0 _ ?_, hrun, hended, _, _, rfl, ?_, ⟨_, rfl⟩, hW, hsame.mono (by decide) (by decide)⟩
  · refine XS.iloadN X0.here hx rfl (hb hby d9_0) rfl ?_
    refine XS.ifYes X0.here hx rfl (pc0 := 1) (pc' := 12) rfl (hb hby d9_1) rfl ((if0 _ _).trans (flt (by decide : ¬ ((3 : Int32) < (0 : Int32)))).2.1) (by decide) (by decide) ?_
    refine XS.iloadN X0.here hx rfl (hb hby d9_12) rfl ?_
    refine X0.ldcInt hx hown (mvT hZ (own_g hw 38 rfl)) (g := (mkF m 13 #[iv (3 : Int32)] [(.int (3 : Int32))])) rfl (hb hby d9_13) _ ?_
    refine XS.icmpYes X0.here hx rfl (pc0 := 15) (pc' := 55) rfl (hb hby d9_15) rfl (tlt (by decide : (3 : Int32) < (1073741823 : Int32))).1 (by decide) (by decide) ?_
    refine XS.iloadN X0.here hx rfl (hb hby d9_55) rfl ?_
    refine XS.iconst X0.here hx rfl (hb hby d9_56) ?_
    refine XS.ishl X0.here hx rfl (hb hby d9_57) rfl ?_
    show Steps _ _ _ (s₁.setTop (mkF m 58 #[iv (3 : Int32)] [(.int ((3 : Int32) <<< ((1 : Int32) &&& 31)))])) _
    rw [(by decide : ((3 : Int32) <<< ((1 : Int32) &&& 31)) = (6 : Int32))]
    show Steps _ _ _ (s₁.setTop (mkF m 58 #[iv (3 : Int32)] [(.int (6 : Int32))])) _
    exact retI X0 hx Bd.returns (hb hby d9_58) hr
  · show own_QP (some (.int (6 : Int32))) h0 n0 _ s₁.heap _
    rw [e0]
    exact ⟨rfl, N0, rfl⟩

theorem ef_rmNF3 (m : MethodId) (x0 : Int32) : entryFrame m #[(.int x0)] 1 = mkF m 0 #[iv x0] [] := by first | (simp [entryFrame, mkF, argsToLocals, Value.category]; done) | rfl
def Q_rmNF3 (Z : State)  (h0 : Heap) (n0 : Nat) (v : Option Value) (h : Heap) (L : List Loc) : Prop := ∃ (t : Addr), ∃ (kt : ClassId), (v = (some (.ref t)) ∧ Fr n0 L ∧ Keep h0 h [] ∧ h0.size ≤ t ∧ Arv Z h t kt .byte (6 : Int32) [(.int (0 : Int32)), (.int (0 : Int32)), (.int (0 : Int32)), (.int (0 : Int32)), (.int (0 : Int32)), (.int (0 : Int32))] (.int (0 : Int32)))
set_option maxRecDepth 65536 in
set_option maxHeartbeats 40000000 in
theorem rmNF3 (l : Launch) (Z : State) (a0 : Array Value) (hw : ∀ d ∈ tables_1, d.before a0 Z = true) (ws : List Jvm.Cond)  (h0 : Heap) (n0 : Nat) (Z0 : n0 ≤ h0.size) :
    MetFree l own_y1 (head1 (Jvm.Cond.code own_y1 jdk_52_method_2_code 1 (some (.array .byte)) :: ws) ({ frames := 1, cells := 1, slots := 6, locals := 12 } : Room)) (fun a U => a = #[(.int (3 : Int32))] ∧ Z.Warmed39 U.vm ∧ U.heap = h0) (fun _ _ _ _ _ => True) (fun _ U o U' => ∃ v L, o = .returned v ∧ Q_rmNF3 Z  h0 n0 v U'.heap L ∧ FrameEnd U o U' L ({ frames := 1, cells := 1, slots := 6, locals := 12 } : Room).cells ({ frames := 1, cells := 1, slots := 6, locals := 12 } : Room).slots) := by
  refine MetFree.of_bodySF (plainFor_of_name pn_8) hisR ?_
  intro p e s m args below meth c s₁ Bd hml0 hP hK
  obtain ⟨rfl, hZ, hh⟩ := hP
  have hx := Bd.exec
  have hby := Bd.bytes
  have hml : c.maxLocals = 1 := hml0
  have hown : s.vm.findClass "java/lang/StringUTF16" = some m.cls := findClass_of_methodNamed Bd.named
  have hnm := (name_of_methodNamed Bd.named Bd.method).1
  have X0 : Stand p l e ({ frames := 1, cells := 1, slots := 6, locals := 12 } : Room) s m #[(.int (3 : Int32))] below meth c s₁ [] 0 0 := Stand.of_body Bd
  have e0 : s₁.heap = h0 := by rw [← hh, Bd.state]; rfl
  have N0 := Fr.nil n0
  have pre0 : ∀ t, Steps p.tables e below (s₁.setTop (mkF m 0 #[iv (3 : Int32)] [])) t → Steps p.tables e below (s₁.setTop (entryFrame m #[(.int (3 : Int32))] 1)) t := fun t k => castTop (ef_rmNF3 m (3 : Int32)) k
  obtain ⟨_, _, ⟨T1, L1, k1, n1⟩, -, X1, ⟨Lc1, hQ1, l1, y1, z1⟩, st1⟩ := Jvm.LawKit.callS X0 hx (y := own_y0) hown (mvT hZ (own_g hw 35 rfl)) (mvT hZ (own_g hw 36 rfl)) (mvT hZ (own_g hw 23 rfl)) (mvT hZ (own_g hw 37 rfl)) (by decide) (backOf (W := 0) (rmNL3 l Z a0 hw []  h0 n0 Z0 ) hZ (own_g hw 37 rfl) (own_g hw 23 rfl) (by decide) (by decide)) (g := (mkF m 1 #[iv (3 : Int32)] [(.int (3 : Int32))])) rfl (by rw [hml]; rfl) (argsL := [(.int (3 : Int32))]) (rest := []) (lenOf pd__I_I rfl) rfl (by show 2 * 0 + _ ≤ _; exact Nat.le_of_eq rfl) (hb hby d8_1) (fun _ _ => ⟨rfl, e0, (by decide : 0 + 0 ≤ _), (by decide : 0 + 0 ≤ _)⟩)
  dsimp only [Pt.U, Pt.locs, Pt.cells, Pt.slots] at X1 l1 y1 z1 st1 hQ1
  subst l1 y1 z1
  obtain ⟨rfl, N1q, e1⟩ := hQ1
  have N1 := Fr.app N0 N1q
  obtain ⟨T2, h2, k2, X2, e2, E2, A2, st2⟩ := newP X1 hx hZ (own_g hw 25 rfl) e1 (g := (mkF m 4 #[iv (3 : Int32)] [(.int (6 : Int32))])) rfl (hb hby d8_4) rfl (by decide) (cap := 6) (by decide) (by decide) (by decide) (by decide)
  obtain ⟨b2, g2⟩ : ∃ z, z = h0.size := ⟨_, rfl⟩
  rw [← g2] at A2 st2
  have o2 : n0 ≤ b2 := Nat.le_trans Z0 (Nat.le_of_eq g2.symm)
  have z2 : h0.size ≤ b2 := Nat.le_trans (Keep.refl h0 []).1 (Nat.le_of_eq g2.symm)
  have K2 : Keep h0 h2 [] := (Keep.refl h0 []).ext E2
  have V2 : Arv Z h2 b2 k2 .byte (6 : Int32) [(.int (0 : Int32)), (.int (0 : Int32)), (.int (0 : Int32)), (.int (0 : Int32)), (.int (0 : Int32)), (.int (0 : Int32))] (.int (0 : Int32)) := (Arv.new A2 (by decide)).pad (pad_rep [] (.int (0 : Int32)) 6)
  obtain ⟨fs, hr, hrun, hended, hW, hsame⟩ := X2.leave (v := some (.ref b2)) (fun h => by rw [Bd.returns] at h; cases h)
  refine ⟨_, _, pre0 _ ?_, hrun, hended, _, _, rfl, ?_, ⟨_, rfl⟩, hW, hsame.mono (by decide) (by decide)⟩
  · refine XS.iloadN X0.here hx rfl (hb hby d8_0) rfl ?_
    show Steps _ _ _ (s₁.setTop (mkF m 1 #[iv (3 : Int32)] [(.int (3 : Int32))])) _
    refine st1 _ ?_
    refine st2 _ ?_
    show Steps _ _ _ (T2.setTop (mkF m 6 #[iv (3 : Int32)] [(.ref b2)])) _
    exact retOut X2 hx Bd.returns rfl (Or.inr (Or.inr (Or.inr (Or.inr ⟨rfl, rfl, rfl⟩)))) (hb hby d8_6) hr
  · show Q_rmNF3 Z  h0 n0 _ T2.heap _
    rw [e2]
    exact ⟨b2, k2, rfl, N1, K2, z2, V2⟩

theorem ef_rmPC3_0 (m : MethodId) (x0 : Addr) (x1 : Int32) (x2 : Int32) : entryFrame m #[(.ref x0), (.int x1), (.int x2)] 3 = mkF m 0 #[rv x0, iv x1, iv x2] [] := by first | (simp [entryFrame, mkF, argsToLocals, Value.category]; done) | rfl
def Q_rmPC3_0 (Z : State) (u0 : Addr) (p2 : Int32) (kB : ClassId) (d0 : Int32) (d1 : Int32) (d2 : Int32) (d3 : Int32) (d4 : Int32) (d5 : Int32) (h0 : Heap) (n0 : Nat) (v : Option Value) (h : Heap) (L : List Loc) : Prop := (v = none ∧ Fr n0 L ∧ Keep h0 h [u0] ∧ Arv Z h u0 kB .byte (6 : Int32) [(.int (((p2 >>> ((0 : Int32) &&& 31)).toInt8.toInt32).toInt8.toInt32)), (.int (((p2 >>> ((8 : Int32) &&& 31)).toInt8.toInt32).toInt8.toInt32)), (.int d2), (.int d3), (.int d4), (.int d5)] (.int (0 : Int32)))
set_option maxRecDepth 65536 in
set_option maxHeartbeats 40000000 in
theorem rmPC3_0 (l : Launch) (Z : State) (a0 : Array Value) (hw : ∀ d ∈ tables_1, d.before a0 Z = true) (ws : List Jvm.Cond) (u0 : Addr) (p2 : Int32) (kB : ClassId) (d0 : Int32) (d1 : Int32) (d2 : Int32) (d3 : Int32) (d4 : Int32) (d5 : Int32) (h0 : Heap) (n0 : Nat) (Z0 : n0 ≤ h0.size) (P_S_StringUTF16__assertionsDisabled : Sta Z h0 "java/lang/StringUTF16" "$assertionsDisabled" "Z" (.int (1 : Int32))) (P_S_StringUTF16_HI_BYTE_SHIFT : Sta Z h0 "java/lang/StringUTF16" "HI_BYTE_SHIFT" "I" (.int (0 : Int32))) (P_S_StringUTF16_LO_BYTE_SHIFT : Sta Z h0 "java/lang/StringUTF16" "LO_BYTE_SHIFT" "I" (.int (8 : Int32))) (P_V_u0 : Arv Z h0 u0 kB .byte (6 : Int32) [(.int d0), (.int d1), (.int d2), (.int d3), (.int d4), (.int d5)] (.int (0 : Int32))) (g_u0 : n0 ≤ u0) :
    MetFree l own_y2 (head1 (Jvm.Cond.code own_y2 jdk_52_method_4_code 3 none :: ws) ({ frames := 0, cells := 0, slots := 0, locals := 0 } : Room)) (fun a U => a = #[(.ref u0), (.int (0 : Int32)), (.int p2)] ∧ Z.Warmed39 U.vm ∧ U.heap = h0) (fun _ _ _ _ _ => True) (fun _ U o U' => ∃ v L, o = .returned v ∧ Q_rmPC3_0 Z u0 p2 kB d0 d1 d2 d3 d4 d5 h0 n0 v U'.heap L ∧ FrameEnd U o U' L ({ frames := 0, cells := 0, slots := 0, locals := 0 } : Room).cells ({ frames := 0, cells := 0, slots := 0, locals := 0 } : Room).slots) := by
  refine MetFree.of_bodySF (plainFor_of_name pn_10) hisR ?_
  intro p e s m args below meth c s₁ Bd hml0 hP hK
  obtain ⟨rfl, hZ, hh⟩ := hP
  have hx := Bd.exec
  have hby := Bd.bytes
  have hml : c.maxLocals = 3 := hml0
  have hown : s.vm.findClass "java/lang/StringUTF16" = some m.cls := findClass_of_methodNamed Bd.named
  have hnm := (name_of_methodNamed Bd.named Bd.method).1
  have X0 : Stand p l e ({ frames := 0, cells := 0, slots := 0, locals := 0 } : Room) s m #[(.ref u0), (.int (0 : Int32)), (.int p2)] below meth c s₁ [] 0 0 := Stand.of_body Bd
  have e0 : s₁.heap = h0 := by rw [← hh, Bd.state]; rfl
  have N0 := Fr.nil n0
  have pre0 : ∀ t, Steps p.tables e below (s₁.setTop (mkF m 0 #[rv u0, iv (0 : Int32), iv p2] [])) t → Steps p.tables e below (s₁.setTop (entryFrame m #[(.ref u0), (.int (0 : Int32)), (.int p2)] 3)) t := fun t k => castTop (ef_rmPC3_0 m u0 (0 : Int32) p2) k
  obtain ⟨T1, X1, e1, st1⟩ := getS2 X0 hx hZ hown (host := "") (Or.inl (own_g hw 42 rfl)) Via.refl e0 P_S_StringUTF16__assertionsDisabled (g := (mkF m 0 #[rv u0, iv (0 : Int32), iv p2] [])) rfl (hb hby d10_0)
  obtain ⟨T2, X2, e2, st2⟩ := getS2 X1 hx hZ hown (host := "") (Or.inl (own_g hw 43 rfl)) Via.refl e1 P_S_StringUTF16_HI_BYTE_SHIFT (g := (mkF m 38 #[rv u0, iv (1 : Int32), iv p2] [(.int p2), (.int (0 : Int32)), (.ref u0)])) rfl (hb hby d10_38)
  obtain ⟨cl3, Ar3, qq3, S3, N3_, H3, G3⟩ := id P_V_u0
  have hin3 : ¬ ((0 : Int32) < 0 ∨ cl3.slots.size ≤ ((0 : Int32)).toNatClampNeg) := inb_of S3 ⟨by decide, by decide⟩
  obtain ⟨T4, h4, X4, e4, W4, st4⟩ := stB X2 hx hZ e2 Ar3 (j := (0 : Int32)) hin3 (g := (mkF m 43 #[rv u0, iv (1 : Int32), iv p2] [(.int ((p2 >>> ((0 : Int32) &&& 31)).toInt8.toInt32)), (.int (0 : Int32)), (.ref u0)])) rfl rfl (hb hby d10_43)
  have V4 : Arv Z h4 u0 kB .byte (6 : Int32) [(.int (((p2 >>> ((0 : Int32) &&& 31)).toInt8.toInt32).toInt8.toInt32)), (.int d1), (.int d2), (.int d3), (.int d4), (.int d5)] (.int (0 : Int32)) := Arv.set Ar3 qq3 S3 N3_ H3 G3 (fits_nar_byte _) W4 0 rfl (Nat.le_of_ble_eq_true rfl)
  have N5 := Fr.snoc X4 N0 g_u0
  have K6 : Keep h0 h4 [u0] := (Keep.refl h0 [u0]).wr W4 (Or.inl (List.mem_of_getElem? (i := 0) rfl))
  have f7 : Sta Z h4 "java/lang/StringUTF16" "LO_BYTE_SHIFT" "I" (.int (8 : Int32)) := (P_S_StringUTF16_LO_BYTE_SHIFT.wr W4)
  obtain ⟨T8, X8, e8, st8⟩ := getS2 X4 hx hZ hown (host := "") (Or.inl (own_g hw 44 rfl)) Via.refl e4 f7 (g := (mkF m 47 #[rv u0, iv (1 : Int32), iv p2] [(.int p2), (.int (1 : Int32)), (.ref u0)])) rfl (hb hby d10_47)
  obtain ⟨cl9, Ar9, qq9, S9, N9_, H9, G9⟩ := id V4
  have hin9 : ¬ ((1 : Int32) < 0 ∨ cl9.slots.size ≤ ((1 : Int32)).toNatClampNeg) := inb_of S9 ⟨by decide, by decide⟩
  obtain ⟨T10, h10, X10, e10, W10, st10⟩ := stB X8 hx hZ e8 Ar9 (j := (1 : Int32)) hin9 (g := (mkF m 52 #[rv u0, iv (1 : Int32), iv p2] [(.int ((p2 >>> ((8 : Int32) &&& 31)).toInt8.toInt32)), (.int (1 : Int32)), (.ref u0)])) rfl rfl (hb hby d10_52)
  have V10 : Arv Z h10 u0 kB .byte (6 : Int32) [(.int (((p2 >>> ((0 : Int32) &&& 31)).toInt8.toInt32).toInt8.toInt32)), (.int (((p2 >>> ((8 : Int32) &&& 31)).toInt8.toInt32).toInt8.toInt32)), (.int d2), (.int d3), (.int d4), (.int d5)] (.int (0 : Int32)) := Arv.set Ar9 qq9 S9 N9_ H9 G9 (fits_nar_byte _) W10 1 rfl (Nat.le_of_ble_eq_true rfl)
  have N11 := Fr.snoc X10 N5 g_u0
  have K12 : Keep h0 h10 [u0] := K6.wr W10 (Or.inl (List.mem_of_getElem? (i := 0) rfl))
  obtain ⟨fs, hr, hrun, hended, hW, hsame⟩ := X10.leave (v := none) (fun _ => rfl)
  refine ⟨_, _, pre0 _ ?_, hrun, hended, _, _, rfl, ?_, ⟨_, rfl⟩, hW, hsame.mono (by decide) (by decide)⟩
  · refine st1 _ ?_
    refine XS.ifYes X1.here hx rfl (pc0 := 3) (pc' := 28) rfl (hb hby d10_3) rfl ((if0 _ _).trans (feq (by decide : ¬ ((1 : Int32) = (0 : Int32)))).2) (by decide) (by decide) ?_
    refine XS.iloadN X1.here hx rfl (hb hby d10_28) rfl ?_
    refine XS.iconst X1.here hx rfl (hb hby d10_29) ?_
    refine XS.ishl X1.here hx rfl (hb hby d10_30) rfl ?_
    show Steps _ _ _ (T1.setTop (mkF m 31 #[rv u0, iv (0 : Int32), iv p2] [(.int ((0 : Int32) <<< ((1 : Int32) &&& 31)))])) _
    rw [(by decide : ((0 : Int32) <<< ((1 : Int32) &&& 31)) = (0 : Int32))]
    refine XS.istoreN X1.here hx rfl (hb hby d10_31) rfl (l' := #[rv u0, iv (0 : Int32), iv p2]) rfl ?_
    refine XS.aloadN X1.here hx rfl (hb hby d10_32) rfl rfl ?_
    refine XS.iloadN X1.here hx rfl (hb hby d10_33) rfl ?_
    refine XS.iinc X1.here hx rfl (hb hby d10_34) rfl (l' := #[rv u0, iv (1 : Int32), iv p2]) rfl ?_
    refine XS.iloadN X1.here hx rfl (hb hby d10_37) rfl ?_
    refine st2 _ ?_
    refine XS.ishr X2.here hx rfl (hb hby d10_41) rfl ?_
    refine XS.i2b X2.here hx rfl (hb hby d10_42) rfl ?_
    refine st4 _ ?_
    refine XS.aloadN X4.here hx rfl (hb hby d10_44) rfl rfl ?_
    refine XS.iloadN X4.here hx rfl (hb hby d10_45) rfl ?_
    refine XS.iloadN X4.here hx rfl (hb hby d10_46) rfl ?_
    refine st8 _ ?_
    refine XS.ishr X8.here hx rfl (hb hby d10_50) rfl ?_
    refine XS.i2b X8.here hx rfl (hb hby d10_51) rfl ?_
    refine st10 _ ?_
    show Steps _ _ _ (T10.setTop (mkF m 53 #[rv u0, iv (1 : Int32), iv p2] [])) _
    exact X10.returnOut hx Bd.returns (hb hby d10_53) hr
  · show Q_rmPC3_0 Z u0 p2 kB d0 d1 d2 d3 d4 d5 h0 n0 _ T10.heap _
    rw [e10]
    exact ⟨rfl, N11, K12, V10⟩

theorem ef_rmGC3_0 (m : MethodId) (x0 : Addr) (x1 : Int32) : entryFrame m #[(.ref x0), (.int x1)] 2 = mkF m 0 #[rv x0, iv x1] [] := by first | (simp [entryFrame, mkF, argsToLocals, Value.category]; done) | rfl
set_option maxRecDepth 65536 in
set_option maxHeartbeats 40000000 in
theorem rmGC3_0 (l : Launch) (Z : State) (a0 : Array Value) (hw : ∀ d ∈ tables_1, d.before a0 Z = true) (ws : List Jvm.Cond) (u0 : Addr) (kB : ClassId) (d0 : Int32) (d1 : Int32) (d2 : Int32) (d3 : Int32) (d4 : Int32) (d5 : Int32) (h0 : Heap) (n0 : Nat) (Z0 : n0 ≤ h0.size) (P_S_StringUTF16__assertionsDisabled : Sta Z h0 "java/lang/StringUTF16" "$assertionsDisabled" "Z" (.int (1 : Int32))) (P_S_StringUTF16_HI_BYTE_SHIFT : Sta Z h0 "java/lang/StringUTF16" "HI_BYTE_SHIFT" "I" (.int (0 : Int32))) (P_S_StringUTF16_LO_BYTE_SHIFT : Sta Z h0 "java/lang/StringUTF16" "LO_BYTE_SHIFT" "I" (.int (8 : Int32))) (P_V_u0 : Arv Z h0 u0 kB .byte (6 : Int32) [(.int d0), (.int d1), (.int d2), (.int d3), (.int d4), (.int d5)] (.int (0 : Int32))) :
    MetFree l own_y3 (head1 (Jvm.Cond.code own_y3 jdk_52_method_5_code 2 (some .char) :: ws) ({ frames := 0, cells := 0, slots := 0, locals := 0 } : Room)) (fun a U => a = #[(.ref u0), (.int (0 : Int32))] ∧ Z.Warmed39 U.vm ∧ U.heap = h0) (fun _ _ _ _ _ => True) (fun _ U o U' => ∃ v L, o = .returned v ∧ own_QP (some (.int (own_gc d0 d1))) h0 n0 v U'.heap L ∧ FrameEnd U o U' L ({ frames := 0, cells := 0, slots := 0, locals := 0 } : Room).cells ({ frames := 0, cells := 0, slots := 0, locals := 0 } : Room).slots) := by
  refine MetFree.of_bodySF (plainFor_of_name pn_11) hisR ?_
  intro p e s m args below meth c s₁ Bd hml0 hP hK
  obtain ⟨rfl, hZ, hh⟩ := hP
  have hx := Bd.exec
  have hby := Bd.bytes
  have hml : c.maxLocals = 2 := hml0
  have hown : s.vm.findClass "java/lang/StringUTF16" = some m.cls := findClass_of_methodNamed Bd.named
  have hnm := (name_of_methodNamed Bd.named Bd.method).1
  have X0 : Stand p l e ({ frames := 0, cells := 0, slots := 0, locals := 0 } : Room) s m #[(.ref u0), (.int (0 : Int32))] below meth c s₁ [] 0 0 := Stand.of_body Bd
  have e0 : s₁.heap = h0 := by rw [← hh, Bd.state]; rfl
  have N0 := Fr.nil n0
  have pre0 : ∀ t, Steps p.tables e below (s₁.setTop (mkF m 0 #[rv u0, iv (0 : Int32)] [])) t → Steps p.tables e below (s₁.setTop (entryFrame m #[(.ref u0), (.int (0 : Int32))] 2)) t := fun t k => castTop (ef_rmGC3_0 m u0 (0 : Int32)) k
  obtain ⟨T1, X1, e1, st1⟩ := getS2 X0 hx hZ hown (host := "") (Or.inl (own_g hw 42 rfl)) Via.refl e0 P_S_StringUTF16__assertionsDisabled (g := (mkF m 0 #[rv u0, iv (0 : Int32)] [])) rfl (hb hby d11_0)
  obtain ⟨cl2, Ar2, qq2, S2, N2_, H2, G2⟩ := id P_V_u0
  have hin2 : ¬ ((0 : Int32) < 0 ∨ cl2.slots.size ≤ ((0 : Int32)).toNatClampNeg) := inb_of S2 ⟨by decide, by decide⟩
  have hat2 : cl2.slots[((0 : Int32)).toNatClampNeg]? = some (.int d0) := H2.at hin2 rfl
  obtain ⟨T3, X3, e3, st3⟩ := getS2 X1 hx hZ hown (host := "") (Or.inl (own_g hw 43 rfl)) Via.refl e1 P_S_StringUTF16_HI_BYTE_SHIFT (g := (mkF m 42 #[rv u0, iv (1 : Int32)] [(.int (d0 &&& (255 : Int32)))])) rfl (hb hby d11_42)
  obtain ⟨cl4, Ar4, qq4, S4, N4_, H4, G4⟩ := id P_V_u0
  have hin4 : ¬ ((1 : Int32) < 0 ∨ cl4.slots.size ≤ ((1 : Int32)).toNatClampNeg) := inb_of S4 ⟨by decide, by decide⟩
  have hat4 : cl4.slots[((1 : Int32)).toNatClampNeg]? = some (.int d1) := H4.at hin4 rfl
  obtain ⟨T5, X5, e5, st5⟩ := getS2 X3 hx hZ hown (host := "") (Or.inl (own_g hw 44 rfl)) Via.refl e3 P_S_StringUTF16_LO_BYTE_SHIFT (g := (mkF m 53 #[rv u0, iv (1 : Int32)] [(.int (d1 &&& (255 : Int32))), (.int ((d0 &&& (255 : Int32)) <<< ((0 : Int32) &&& 31)))])) rfl (hb hby d11_53)
  obtain ⟨fs, hr, hrun, hended, hW, hsame⟩ := X5.leave (v := some (.int (nar .char ((((d0 &&& (255 : Int32)) <<< ((0 : Int32) &&& 31)) ||| ((d1 &&& (255 : Int32)) <<< ((8 : Int32) &&& 31))).toUInt32.toUInt16.toUInt32.toInt32)))) (fun h => by rw [Bd.returns] at h; cases h)
  refine ⟨_, _, pre0 _ ?_, hrun, hended, _, _, rfl, ?_, ⟨_, rfl⟩, hW, hsame.mono (by decide) (by decide)⟩
  · refine st1 _ ?_
    refine XS.ifYes X1.here hx rfl (pc0 := 3) (pc' := 28) rfl (hb hby d11_3) rfl ((if0 _ _).trans (feq (by decide : ¬ ((1 : Int32) = (0 : Int32)))).2) (by decide) (by decide) ?_
    refine XS.iloadN X1.here hx rfl (hb hby d11_28) rfl ?_
    refine XS.iconst X1.here hx rfl (hb hby d11_29) ?_
    refine XS.ishl X1.here hx rfl (hb hby d11_30) rfl ?_
    show Steps _ _ _ (T1.setTop (mkF m 31 #[rv u0, iv (0 : Int32)] [(.int ((0 : Int32) <<< ((1 : Int32) &&& 31)))])) _
    rw [(by decide : ((0 : Int32) <<< ((1 : Int32) &&& 31)) = (0 : Int32))]
    refine XS.istoreN X1.here hx rfl (hb hby d11_31) rfl (l' := #[rv u0, iv (0 : Int32)]) rfl ?_
    refine XS.aloadN X1.here hx rfl (hb hby d11_32) rfl rfl ?_
    refine XS.iloadN X1.here hx rfl (hb hby d11_33) rfl ?_
    refine XS.iinc X1.here hx rfl (hb hby d11_34) rfl (l' := #[rv u0, iv (1 : Int32)]) rfl ?_
    refine X1.baloadBytes hx (j := (0 : Int32)) (v := (.int d0)) (by rw [e1]; exact Ar2.1) (State.isArrayOf_alike hZ.alike Ar2.2.1) Ar2.2.2 hin2 hat2 (g := (mkF m 37 #[rv u0, iv (1 : Int32)] [(.int (0 : Int32)), (.ref u0)])) rfl rfl (hb hby d11_37) _ ?_
    refine XS.sipush X1.here hx rfl (hb hby d11_38) ?_
    refine XS.iand X1.here hx rfl (hb hby d11_41) rfl ?_
    refine st3 _ ?_
    refine XS.ishl X3.here hx rfl (hb hby d11_45) rfl ?_
    refine XS.aloadN X3.here hx rfl (hb hby d11_46) rfl rfl ?_
    refine XS.iloadN X3.here hx rfl (hb hby d11_47) rfl ?_
    refine X3.baloadBytes hx (j := (1 : Int32)) (v := (.int d1)) (by rw [e3]; exact Ar4.1) (State.isArrayOf_alike hZ.alike Ar4.2.1) Ar4.2.2 hin4 hat4 (g := (mkF m 48 #[rv u0, iv (1 : Int32)] [(.int (1 : Int32)), (.ref u0), (.int ((d0 &&& (255 : Int32)) <<< ((0 : Int32) &&& 31)))])) rfl rfl (hb hby d11_48) _ ?_
    refine XS.sipush X3.here hx rfl (hb hby d11_49) ?_
    refine XS.iand X3.here hx rfl (hb hby d11_52) rfl ?_
    refine st5 _ ?_
    refine XS.ishl X5.here hx rfl (hb hby d11_56) rfl ?_
    refine XS.ior X5.here hx rfl (hb hby d11_57) rfl ?_
    refine XS.i2c X5.here hx rfl (hb hby d11_58) rfl ?_
    show Steps _ _ _ (T5.setTop (mkF m 59 #[rv u0, iv (1 : Int32)] [(.int ((((d0 &&& (255 : Int32)) <<< ((0 : Int32) &&& 31)) ||| ((d1 &&& (255 : Int32)) <<< ((8 : Int32) &&& 31))).toUInt32.toUInt16.toUInt32.toInt32))])) _
    exact retN X5 hx (t := .char) Bd.returns (by simp) (hb hby d11_59) hr
  · show own_QP (some (.int (own_gc d0 d1))) h0 n0 _ T5.heap _
    rw [e5]
    exact ⟨(by first | rfl | simp []), N0, rfl⟩

theorem ef_rmPC3_1 (m : MethodId) (x0 : Addr) (x1 : Int32) (x2 : Int32) : entryFrame m #[(.ref x0), (.int x1), (.int x2)] 3 = mkF m 0 #[rv x0, iv x1, iv x2] [] := by first | (simp [entryFrame, mkF, argsToLocals, Value.category]; done) | rfl
def Q_rmPC3_1 (Z : State) (u0 : Addr) (p2 : Int32) (kB : ClassId) (d0 : Int32) (d1 : Int32) (d2 : Int32) (d3 : Int32) (d4 : Int32) (d5 : Int32) (h0 : Heap) (n0 : Nat) (v : Option Value) (h : Heap) (L : List Loc) : Prop := (v = none ∧ Fr n0 L ∧ Keep h0 h [u0] ∧ Arv Z h u0 kB .byte (6 : Int32) [(.int d0), (.int d1), (.int (((p2 >>> ((0 : Int32) &&& 31)).toInt8.toInt32).toInt8.toInt32)), (.int (((p2 >>> ((8 : Int32) &&& 31)).toInt8.toInt32).toInt8.toInt32)), (.int d4), (.int d5)] (.int (0 : Int32)))
set_option maxRecDepth 65536 in
set_option maxHeartbeats 40000000 in
theorem rmPC3_1 (l : Launch) (Z : State) (a0 : Array Value) (hw : ∀ d ∈ tables_1, d.before a0 Z = true) (ws : List Jvm.Cond) (u0 : Addr) (p2 : Int32) (kB : ClassId) (d0 : Int32) (d1 : Int32) (d2 : Int32) (d3 : Int32) (d4 : Int32) (d5 : Int32) (h0 : Heap) (n0 : Nat) (Z0 : n0 ≤ h0.size) (P_S_StringUTF16__assertionsDisabled : Sta Z h0 "java/lang/StringUTF16" "$assertionsDisabled" "Z" (.int (1 : Int32))) (P_S_StringUTF16_HI_BYTE_SHIFT : Sta Z h0 "java/lang/StringUTF16" "HI_BYTE_SHIFT" "I" (.int (0 : Int32))) (P_S_StringUTF16_LO_BYTE_SHIFT : Sta Z h0 "java/lang/StringUTF16" "LO_BYTE_SHIFT" "I" (.int (8 : Int32))) (P_V_u0 : Arv Z h0 u0 kB .byte (6 : Int32) [(.int d0), (.int d1), (.int d2), (.int d3), (.int d4), (.int d5)] (.int (0 : Int32))) (g_u0 : n0 ≤ u0) :
    MetFree l own_y2 (head1 (Jvm.Cond.code own_y2 jdk_52_method_4_code 3 none :: ws) ({ frames := 0, cells := 0, slots := 0, locals := 0 } : Room)) (fun a U => a = #[(.ref u0), (.int (1 : Int32)), (.int p2)] ∧ Z.Warmed39 U.vm ∧ U.heap = h0) (fun _ _ _ _ _ => True) (fun _ U o U' => ∃ v L, o = .returned v ∧ Q_rmPC3_1 Z u0 p2 kB d0 d1 d2 d3 d4 d5 h0 n0 v U'.heap L ∧ FrameEnd U o U' L ({ frames := 0, cells := 0, slots := 0, locals := 0 } : Room).cells ({ frames := 0, cells := 0, slots := 0, locals := 0 } : Room).slots) := by
  refine MetFree.of_bodySF (plainFor_of_name pn_10) hisR ?_
  intro p e s m args below meth c s₁ Bd hml0 hP hK
  obtain ⟨rfl, hZ, hh⟩ := hP
  have hx := Bd.exec
  have hby := Bd.bytes
  have hml : c.maxLocals = 3 := hml0
  have hown : s.vm.findClass "java/lang/StringUTF16" = some m.cls := findClass_of_methodNamed Bd.named
  have hnm := (name_of_methodNamed Bd.named Bd.method).1
  have X0 : Stand p l e ({ frames := 0, cells := 0, slots := 0, locals := 0 } : Room) s m #[(.ref u0), (.int (1 : Int32)), (.int p2)] below meth c s₁ [] 0 0 := Stand.of_body Bd
  have e0 : s₁.heap = h0 := by rw [← hh, Bd.state]; rfl
  have N0 := Fr.nil n0
  have pre0 : ∀ t, Steps p.tables e below (s₁.setTop (mkF m 0 #[rv u0, iv (1 : Int32), iv p2] [])) t → Steps p.tables e below (s₁.setTop (entryFrame m #[(.ref u0), (.int (1 : Int32)), (.int p2)] 3)) t := fun t k => castTop (ef_rmPC3_1 m u0 (1 : Int32) p2) k
  obtain ⟨T1, X1, e1, st1⟩ := getS2 X0 hx hZ hown (host := "") (Or.inl (own_g hw 42 rfl)) Via.refl e0 P_S_StringUTF16__assertionsDisabled (g := (mkF m 0 #[rv u0, iv (1 : Int32), iv p2] [])) rfl (hb hby d10_0)
  obtain ⟨T2, X2, e2, st2⟩ := getS2 X1 hx hZ hown (host := "") (Or.inl (own_g hw 43 rfl)) Via.refl e1 P_S_StringUTF16_HI_BYTE_SHIFT (g := (mkF m 38 #[rv u0, iv (3 : Int32), iv p2] [(.int p2), (.int (2 : Int32)), (.ref u0)])) rfl (hb hby d10_38)
  obtain ⟨cl3, Ar3, qq3, S3, N3_, H3, G3⟩ := id P_V_u0
  have hin3 : ¬ ((2 : Int32) < 0 ∨ cl3.slots.size ≤ ((2 : Int32)).toNatClampNeg) := inb_of S3 ⟨by decide, by decide⟩
  obtain ⟨T4, h4, X4, e4, W4, st4⟩ := stB X2 hx hZ e2 Ar3 (j := (2 : Int32)) hin3 (g := (mkF m 43 #[rv u0, iv (3 : Int32), iv p2] [(.int ((p2 >>> ((0 : Int32) &&& 31)).toInt8.toInt32)), (.int (2 : Int32)), (.ref u0)])) rfl rfl (hb hby d10_43)
  have V4 : Arv Z h4 u0 kB .byte (6 : Int32) [(.int d0), (.int d1), (.int (((p2 >>> ((0 : Int32) &&& 31)).toInt8.toInt32).toInt8.toInt32)), (.int d3), (.int d4), (.int d5)] (.int (0 : Int32)) := Arv.set Ar3 qq3 S3 N3_ H3 G3 (fits_nar_byte _) W4 2 rfl (Nat.le_of_ble_eq_true rfl)
  have N5 := Fr.snoc X4 N0 g_u0
  have K6 : Keep h0 h4 [u0] := (Keep.refl h0 [u0]).wr W4 (Or.inl (List.mem_of_getElem? (i := 0) rfl))
  have f7 : Sta Z h4 "java/lang/StringUTF16" "LO_BYTE_SHIFT" "I" (.int (8 : Int32)) := (P_S_StringUTF16_LO_BYTE_SHIFT.wr W4)
  obtain ⟨T8, X8, e8, st8⟩ := getS2 X4 hx hZ hown (host := "") (Or.inl (own_g hw 44 rfl)) Via.refl e4 f7 (g := (mkF m 47 #[rv u0, iv (3 : Int32), iv p2] [(.int p2), (.int (3 : Int32)), (.ref u0)])) rfl (hb hby d10_47)
  obtain ⟨cl9, Ar9, qq9, S9, N9_, H9, G9⟩ := id V4
  have hin9 : ¬ ((3 : Int32) < 0 ∨ cl9.slots.size ≤ ((3 : Int32)).toNatClampNeg) := inb_of S9 ⟨by decide, by decide⟩
  obtain ⟨T10, h10, X10, e10, W10, st10⟩ := stB X8 hx hZ e8 Ar9 (j := (3 : Int32)) hin9 (g := (mkF m 52 #[rv u0, iv (3 : Int32), iv p2] [(.int ((p2 >>> ((8 : Int32) &&& 31)).toInt8.toInt32)), (.int (3 : Int32)), (.ref u0)])) rfl rfl (hb hby d10_52)
  have V10 : Arv Z h10 u0 kB .byte (6 : Int32) [(.int d0), (.int d1), (.int (((p2 >>> ((0 : Int32) &&& 31)).toInt8.toInt32).toInt8.toInt32)), (.int (((p2 >>> ((8 : Int32) &&& 31)).toInt8.toInt32).toInt8.toInt32)), (.int d4), (.int d5)] (.int (0 : Int32)) := Arv.set Ar9 qq9 S9 N9_ H9 G9 (fits_nar_byte _) W10 3 rfl (Nat.le_of_ble_eq_true rfl)
  have N11 := Fr.snoc X10 N5 g_u0
  have K12 : Keep h0 h10 [u0] := K6.wr W10 (Or.inl (List.mem_of_getElem? (i := 0) rfl))
  obtain ⟨fs, hr, hrun, hended, hW, hsame⟩ := X10.leave (v := none) (fun _ => rfl)
  refine ⟨_, _, pre0 _ ?_, hrun, hended, _, _, rfl, ?_, ⟨_, rfl⟩, hW, hsame.mono (by decide) (by decide)⟩
  · refine st1 _ ?_
    refine XS.ifYes X1.here hx rfl (pc0 := 3) (pc' := 28) rfl (hb hby d10_3) rfl ((if0 _ _).trans (feq (by decide : ¬ ((1 : Int32) = (0 : Int32)))).2) (by decide) (by decide) ?_
    refine XS.iloadN X1.here hx rfl (hb hby d10_28) rfl ?_
    refine XS.iconst X1.here hx rfl (hb hby d10_29) ?_
    refine XS.ishl X1.here hx rfl (hb hby d10_30) rfl ?_
    show Steps _ _ _ (T1.setTop (mkF m 31 #[rv u0, iv (1 : Int32), iv p2] [(.int ((1 : Int32) <<< ((1 : Int32) &&& 31)))])) _
    rw [(by decide : ((1 : Int32) <<< ((1 : Int32) &&& 31)) = (2 : Int32))]
    refine XS.istoreN X1.here hx rfl (hb hby d10_31) rfl (l' := #[rv u0, iv (2 : Int32), iv p2]) rfl ?_
    refine XS.aloadN X1.here hx rfl (hb hby d10_32) rfl rfl ?_
    refine XS.iloadN X1.here hx rfl (hb hby d10_33) rfl ?_
    refine XS.iinc X1.here hx rfl (hb hby d10_34) rfl (l' := #[rv u0, iv (3 : Int32), iv p2]) rfl ?_
    refine XS.iloadN X1.here hx rfl (hb hby d10_37) rfl ?_
    refine st2 _ ?_
    refine XS.ishr X2.here hx rfl (hb hby d10_41) rfl ?_
    refine XS.i2b X2.here hx rfl (hb hby d10_42) rfl ?_
    refine st4 _ ?_
    refine XS.aloadN X4.here hx rfl (hb hby d10_44) rfl rfl ?_
    refine XS.iloadN X4.here hx rfl (hb hby d10_45) rfl ?_
    refine XS.iloadN X4.here hx rfl (hb hby d10_46) rfl ?_
    refine st8 _ ?_
    refine XS.ishr X8.here hx rfl (hb hby d10_50) rfl ?_
    refine XS.i2b X8.here hx rfl (hb hby d10_51) rfl ?_
    refine st10 _ ?_
    show Steps _ _ _ (T10.setTop (mkF m 53 #[rv u0, iv (3 : Int32), iv p2] [])) _
    exact X10.returnOut hx Bd.returns (hb hby d10_53) hr
  · show Q_rmPC3_1 Z u0 p2 kB d0 d1 d2 d3 d4 d5 h0 n0 _ T10.heap _
    rw [e10]
    exact ⟨rfl, N11, K12, V10⟩

theorem ef_rmGC3_1 (m : MethodId) (x0 : Addr) (x1 : Int32) : entryFrame m #[(.ref x0), (.int x1)] 2 = mkF m 0 #[rv x0, iv x1] [] := by first | (simp [entryFrame, mkF, argsToLocals, Value.category]; done) | rfl
set_option maxRecDepth 65536 in
set_option maxHeartbeats 40000000 in
theorem rmGC3_1 (l : Launch) (Z : State) (a0 : Array Value) (hw : ∀ d ∈ tables_1, d.before a0 Z = true) (ws : List Jvm.Cond) (u0 : Addr) (kB : ClassId) (d0 : Int32) (d1 : Int32) (d2 : Int32) (d3 : Int32) (d4 : Int32) (d5 : Int32) (h0 : Heap) (n0 : Nat) (Z0 : n0 ≤ h0.size) (P_S_StringUTF16__assertionsDisabled : Sta Z h0 "java/lang/StringUTF16" "$assertionsDisabled" "Z" (.int (1 : Int32))) (P_S_StringUTF16_HI_BYTE_SHIFT : Sta Z h0 "java/lang/StringUTF16" "HI_BYTE_SHIFT" "I" (.int (0 : Int32))) (P_S_StringUTF16_LO_BYTE_SHIFT : Sta Z h0 "java/lang/StringUTF16" "LO_BYTE_SHIFT" "I" (.int (8 : Int32))) (P_V_u0 : Arv Z h0 u0 kB .byte (6 : Int32) [(.int d0), (.int d1), (.int d2), (.int d3), (.int d4), (.int d5)] (.int (0 : Int32))) :
    MetFree l own_y3 (head1 (Jvm.Cond.code own_y3 jdk_52_method_5_code 2 (some .char) :: ws) ({ frames := 0, cells := 0, slots := 0, locals := 0 } : Room)) (fun a U => a = #[(.ref u0), (.int (1 : Int32))] ∧ Z.Warmed39 U.vm ∧ U.heap = h0) (fun _ _ _ _ _ => True) (fun _ U o U' => ∃ v L, o = .returned v ∧ own_QP (some (.int (own_gc d2 d3))) h0 n0 v U'.heap L ∧ FrameEnd U o U' L ({ frames := 0, cells := 0, slots := 0, locals := 0 } : Room).cells ({ frames := 0, cells := 0, slots := 0, locals := 0 } : Room).slots) := by
  refine MetFree.of_bodySF (plainFor_of_name pn_11) hisR ?_
  intro p e s m args below meth c s₁ Bd hml0 hP hK
  obtain ⟨rfl, hZ, hh⟩ := hP
  have hx := Bd.exec
  have hby := Bd.bytes
  have hml : c.maxLocals = 2 := hml0
  have hown : s.vm.findClass "java/lang/StringUTF16" = some m.cls := findClass_of_methodNamed Bd.named
  have hnm := (name_of_methodNamed Bd.named Bd.method).1
  have X0 : Stand p l e ({ frames := 0, cells := 0, slots := 0, locals := 0 } : Room) s m #[(.ref u0), (.int (1 : Int32))] below meth c s₁ [] 0 0 := Stand.of_body Bd
  have e0 : s₁.heap = h0 := by rw [← hh, Bd.state]; rfl
  have N0 := Fr.nil n0
  have pre0 : ∀ t, Steps p.tables e below (s₁.setTop (mkF m 0 #[rv u0, iv (1 : Int32)] [])) t → Steps p.tables e below (s₁.setTop (entryFrame m #[(.ref u0), (.int (1 : Int32))] 2)) t := fun t k => castTop (ef_rmGC3_1 m u0 (1 : Int32)) k
  obtain ⟨T1, X1, e1, st1⟩ := getS2 X0 hx hZ hown (host := "") (Or.inl (own_g hw 42 rfl)) Via.refl e0 P_S_StringUTF16__assertionsDisabled (g := (mkF m 0 #[rv u0, iv (1 : Int32)] [])) rfl (hb hby d11_0)
  obtain ⟨cl2, Ar2, qq2, S2, N2_, H2, G2⟩ := id P_V_u0
  have hin2 : ¬ ((2 : Int32) < 0 ∨ cl2.slots.size ≤ ((2 : Int32)).toNatClampNeg) := inb_of S2 ⟨by decide, by decide⟩
  have hat2 : cl2.slots[((2 : Int32)).toNatClampNeg]? = some (.int d2) := H2.at hin2 rfl
  obtain ⟨T3, X3, e3, st3⟩ := getS2 X1 hx hZ hown (host := "") (Or.inl (own_g hw 43 rfl)) Via.refl e1 P_S_StringUTF16_HI_BYTE_SHIFT (g := (mkF m 42 #[rv u0, iv (3 : Int32)] [(.int (d2 &&& (255 : Int32)))])) rfl (hb hby d11_42)
  obtain ⟨cl4, Ar4, qq4, S4, N4_, H4, G4⟩ := id P_V_u0
  have hin4 : ¬ ((3 : Int32) < 0 ∨ cl4.slots.size ≤ ((3 : Int32)).toNatClampNeg) := inb_of S4 ⟨by decide, by decide⟩
  have hat4 : cl4.slots[((3 : Int32)).toNatClampNeg]? = some (.int d3) := H4.at hin4 rfl
  obtain ⟨T5, X5, e5, st5⟩ := getS2 X3 hx hZ hown (host := "") (Or.inl (own_g hw 44 rfl)) Via.refl e3 P_S_StringUTF16_LO_BYTE_SHIFT (g := (mkF m 53 #[rv u0, iv (3 : Int32)] [(.int (d3 &&& (255 : Int32))), (.int ((d2 &&& (255 : Int32)) <<< ((0 : Int32) &&& 31)))])) rfl (hb hby d11_53)
  obtain ⟨fs, hr, hrun, hended, hW, hsame⟩ := X5.leave (v := some (.int (nar .char ((((d2 &&& (255 : Int32)) <<< ((0 : Int32) &&& 31)) ||| ((d3 &&& (255 : Int32)) <<< ((8 : Int32) &&& 31))).toUInt32.toUInt16.toUInt32.toInt32)))) (fun h => by rw [Bd.returns] at h; cases h)
  refine ⟨_, _, pre0 _ ?_, hrun, hended, _, _, rfl, ?_, ⟨_, rfl⟩, hW, hsame.mono (by decide) (by decide)⟩
  · refine st1 _ ?_
    refine XS.ifYes X1.here hx rfl (pc0 := 3) (pc' := 28) rfl (hb hby d11_3) rfl ((if0 _ _).trans (feq (by decide : ¬ ((1 : Int32) = (0 : Int32)))).2) (by decide) (by decide) ?_
    refine XS.iloadN X1.here hx rfl (hb hby d11_28) rfl ?_
    refine XS.iconst X1.here hx rfl (hb hby d11_29) ?_
    refine XS.ishl X1.here hx rfl (hb hby d11_30) rfl ?_
    show Steps _ _ _ (T1.setTop (mkF m 31 #[rv u0, iv (1 : Int32)] [(.int ((1 : Int32) <<< ((1 : Int32) &&& 31)))])) _
    rw [(by decide : ((1 : Int32) <<< ((1 : Int32) &&& 31)) = (2 : Int32))]
    refine XS.istoreN X1.here hx rfl (hb hby d11_31) rfl (l' := #[rv u0, iv (2 : Int32)]) rfl ?_
    refine XS.aloadN X1.here hx rfl (hb hby d11_32) rfl rfl ?_
    refine XS.iloadN X1.here hx rfl (hb hby d11_33) rfl ?_
    refine XS.iinc X1.here hx rfl (hb hby d11_34) rfl (l' := #[rv u0, iv (3 : Int32)]) rfl ?_
    refine X1.baloadBytes hx (j := (2 : Int32)) (v := (.int d2)) (by rw [e1]; exact Ar2.1) (State.isArrayOf_alike hZ.alike Ar2.2.1) Ar2.2.2 hin2 hat2 (g := (mkF m 37 #[rv u0, iv (3 : Int32)] [(.int (2 : Int32)), (.ref u0)])) rfl rfl (hb hby d11_37) _ ?_
    refine XS.sipush X1.here hx rfl (hb hby d11_38) ?_
    refine XS.iand X1.here hx rfl (hb hby d11_41) rfl ?_
    refine st3 _ ?_
    refine XS.ishl X3.here hx rfl (hb hby d11_45) rfl ?_
    refine XS.aloadN X3.here hx rfl (hb hby d11_46) rfl rfl ?_
    refine XS.iloadN X3.here hx rfl (hb hby d11_47) rfl ?_
    refine X3.baloadBytes hx (j := (3 : Int32)) (v := (.int d3)) (by rw [e3]; exact Ar4.1) (State.isArrayOf_alike hZ.alike Ar4.2.1) Ar4.2.2 hin4 hat4 (g := (mkF m 48 #[rv u0, iv (3 : Int32)] [(.int (3 : Int32)), (.ref u0), (.int ((d2 &&& (255 : Int32)) <<< ((0 : Int32) &&& 31)))])) rfl rfl (hb hby d11_48) _ ?_
    refine XS.sipush X3.here hx rfl (hb hby d11_49) ?_
    refine XS.iand X3.here hx rfl (hb hby d11_52) rfl ?_
    refine st5 _ ?_
    refine XS.ishl X5.here hx rfl (hb hby d11_56) rfl ?_
    refine XS.ior X5.here hx rfl (hb hby d11_57) rfl ?_
    refine XS.i2c X5.here hx rfl (hb hby d11_58) rfl ?_
    show Steps _ _ _ (T5.setTop (mkF m 59 #[rv u0, iv (3 : Int32)] [(.int ((((d2 &&& (255 : Int32)) <<< ((0 : Int32) &&& 31)) ||| ((d3 &&& (255 : Int32)) <<< ((8 : Int32) &&& 31))).toUInt32.toUInt16.toUInt32.toInt32))])) _
    exact retN X5 hx (t := .char) Bd.returns (by simp) (hb hby d11_59) hr
  · show own_QP (some (.int (own_gc d2 d3))) h0 n0 _ T5.heap _
    rw [e5]
    exact ⟨(by first | rfl | simp []), N0, rfl⟩

theorem ef_rmPC3_2 (m : MethodId) (x0 : Addr) (x1 : Int32) (x2 : Int32) : entryFrame m #[(.ref x0), (.int x1), (.int x2)] 3 = mkF m 0 #[rv x0, iv x1, iv x2] [] := by first | (simp [entryFrame, mkF, argsToLocals, Value.category]; done) | rfl
def Q_rmPC3_2 (Z : State) (u0 : Addr) (p2 : Int32) (kB : ClassId) (d0 : Int32) (d1 : Int32) (d2 : Int32) (d3 : Int32) (d4 : Int32) (d5 : Int32) (h0 : Heap) (n0 : Nat) (v : Option Value) (h : Heap) (L : List Loc) : Prop := (v = none ∧ Fr n0 L ∧ Keep h0 h [u0] ∧ Arv Z h u0 kB .byte (6 : Int32) [(.int d0), (.int d1), (.int d2), (.int d3), (.int (((p2 >>> ((0 : Int32) &&& 31)).toInt8.toInt32).toInt8.toInt32)), (.int (((p2 >>> ((8 : Int32) &&& 31)).toInt8.toInt32).toInt8.toInt32))] (.int (0 : Int32)))
set_option maxRecDepth 65536 in
set_option maxHeartbeats 40000000 in
theorem rmPC3_2 (l : Launch) (Z : State) (a0 : Array Value) (hw : ∀ d ∈ tables_1, d.before a0 Z = true) (ws : List Jvm.Cond) (u0 : Addr) (p2 : Int32) (kB : ClassId) (d0 : Int32) (d1 : Int32) (d2 : Int32) (d3 : Int32) (d4 : Int32) (d5 : Int32) (h0 : Heap) (n0 : Nat) (Z0 : n0 ≤ h0.size) (P_S_StringUTF16__assertionsDisabled : Sta Z h0 "java/lang/StringUTF16" "$assertionsDisabled" "Z" (.int (1 : Int32))) (P_S_StringUTF16_HI_BYTE_SHIFT : Sta Z h0 "java/lang/StringUTF16" "HI_BYTE_SHIFT" "I" (.int (0 : Int32))) (P_S_StringUTF16_LO_BYTE_SHIFT : Sta Z h0 "java/lang/StringUTF16" "LO_BYTE_SHIFT" "I" (.int (8 : Int32))) (P_V_u0 : Arv Z h0 u0 kB .byte (6 : Int32) [(.int d0), (.int d1), (.int d2), (.int d3), (.int d4), (.int d5)] (.int (0 : Int32))) (g_u0 : n0 ≤ u0) :
    MetFree l own_y2 (head1 (Jvm.Cond.code own_y2 jdk_52_method_4_code 3 none :: ws) ({ frames := 0, cells := 0, slots := 0, locals := 0 } : Room)) (fun a U => a = #[(.ref u0), (.int (2 : Int32)), (.int p2)] ∧ Z.Warmed39 U.vm ∧ U.heap = h0) (fun _ _ _ _ _ => True) (fun _ U o U' => ∃ v L, o = .returned v ∧ Q_rmPC3_2 Z u0 p2 kB d0 d1 d2 d3 d4 d5 h0 n0 v U'.heap L ∧ FrameEnd U o U' L ({ frames := 0, cells := 0, slots := 0, locals := 0 } : Room).cells ({ frames := 0, cells := 0, slots := 0, locals := 0 } : Room).slots) := by
  refine MetFree.of_bodySF (plainFor_of_name pn_10) hisR ?_
  intro p e s m args below meth c s₁ Bd hml0 hP hK
  obtain ⟨rfl, hZ, hh⟩ := hP
  have hx := Bd.exec
  have hby := Bd.bytes
  have hml : c.maxLocals = 3 := hml0
  have hown : s.vm.findClass "java/lang/StringUTF16" = some m.cls := findClass_of_methodNamed Bd.named
  have hnm := (name_of_methodNamed Bd.named Bd.method).1
  have X0 : Stand p l e ({ frames := 0, cells := 0, slots := 0, locals := 0 } : Room) s m #[(.ref u0), (.int (2 : Int32)), (.int p2)] below meth c s₁ [] 0 0 := Stand.of_body Bd
  have e0 : s₁.heap = h0 := by rw [← hh, Bd.state]; rfl
  have N0 := Fr.nil n0
  have pre0 : ∀ t, Steps p.tables e below (s₁.setTop (mkF m 0 #[rv u0, iv (2 : Int32), iv p2] [])) t → Steps p.tables e below (s₁.setTop (entryFrame m #[(.ref u0), (.int (2 : Int32)), (.int p2)] 3)) t := fun t k => castTop (ef_rmPC3_2 m u0 (2 : Int32) p2) k
  obtain ⟨T1, X1, e1, st1⟩ := getS2 X0 hx hZ hown (host := "") (Or.inl (own_g hw 42 rfl)) Via.refl e0 P_S_StringUTF16__assertionsDisabled (g := (mkF m 0 #[rv u0, iv (2 : Int32), iv p2] [])) rfl (hb hby d10_0)
  obtain ⟨T2, X2, e2, st2⟩ := getS2 X1 hx hZ hown (host := "") (Or.inl (own_g hw 43 rfl)) Via.refl e1 P_S_StringUTF16_HI_BYTE_SHIFT (g := (mkF m 38 #[rv u0, iv (5 : Int32), iv p2] [(.int p2), (.int (4 : Int32)), (.ref u0)])) rfl (hb hby d10_38)
  obtain ⟨cl3, Ar3, qq3, S3, N3_, H3, G3⟩ := id P_V_u0
  have hin3 : ¬ ((4 : Int32) < 0 ∨ cl3.slots.size ≤ ((4 : Int32)).toNatClampNeg) := inb_of S3 ⟨by decide, by decide⟩
  obtain ⟨T4, h4, X4, e4, W4, st4⟩ := stB X2 hx hZ e2 Ar3 (j := (4 : Int32)) hin3 (g := (mkF m 43 #[rv u0, iv (5 : Int32), iv p2] [(.int ((p2 >>> ((0 : Int32) &&& 31)).toInt8.toInt32)), (.int (4 : Int32)), (.ref u0)])) rfl rfl (hb hby d10_43)
  have V4 : Arv Z h4 u0 kB .byte (6 : Int32) [(.int d0), (.int d1), (.int d2), (.int d3), (.int (((p2 >>> ((0 : Int32) &&& 31)).toInt8.toInt32).toInt8.toInt32)), (.int d5)] (.int (0 : Int32)) := Arv.set Ar3 qq3 S3 N3_ H3 G3 (fits_nar_byte _) W4 4 rfl (Nat.le_of_ble_eq_true rfl)
  have N5 := Fr.snoc X4 N0 g_u0
  have K6 : Keep h0 h4 [u0] := (Keep.refl h0 [u0]).wr W4 (Or.inl (List.mem_of_getElem? (i := 0) rfl))
  have f7 : Sta Z h4 "java/lang/StringUTF16" "LO_BYTE_SHIFT" "I" (.int (8 : Int32)) := (P_S_StringUTF16_LO_BYTE_SHIFT.wr W4)
  obtain ⟨T8, X8, e8, st8⟩ := getS2 X4 hx hZ hown (host := "") (Or.inl (own_g hw 44 rfl)) Via.refl e4 f7 (g := (mkF m 47 #[rv u0, iv (5 : Int32), iv p2] [(.int p2), (.int (5 : Int32)), (.ref u0)])) rfl (hb hby d10_47)
  obtain ⟨cl9, Ar9, qq9, S9, N9_, H9, G9⟩ := id V4
  have hin9 : ¬ ((5 : Int32) < 0 ∨ cl9.slots.size ≤ ((5 : Int32)).toNatClampNeg) := inb_of S9 ⟨by decide, by decide⟩
  obtain ⟨T10, h10, X10, e10, W10, st10⟩ := stB X8 hx hZ e8 Ar9 (j := (5 : Int32)) hin9 (g := (mkF m 52 #[rv u0, iv (5 : Int32), iv p2] [(.int ((p2 >>> ((8 : Int32) &&& 31)).toInt8.toInt32)), (.int (5 : Int32)), (.ref u0)])) rfl rfl (hb hby d10_52)
  have V10 : Arv Z h10 u0 kB .byte (6 : Int32) [(.int d0), (.int d1), (.int d2), (.int d3), (.int (((p2 >>> ((0 : Int32) &&& 31)).toInt8.toInt32).toInt8.toInt32)), (.int (((p2 >>> ((8 : Int32) &&& 31)).toInt8.toInt32).toInt8.toInt32))] (.int (0 : Int32)) := Arv.set Ar9 qq9 S9 N9_ H9 G9 (fits_nar_byte _) W10 5 rfl (Nat.le_of_ble_eq_true rfl)
  have N11 := Fr.snoc X10 N5 g_u0
  have K12 : Keep h0 h10 [u0] := K6.wr W10 (Or.inl (List.mem_of_getElem? (i := 0) rfl))
  obtain ⟨fs, hr, hrun, hended, hW, hsame⟩ := X10.leave (v := none) (fun _ => rfl)
  refine ⟨_, _, pre0 _ ?_, hrun, hended, _, _, rfl, ?_, ⟨_, rfl⟩, hW, hsame.mono (by decide) (by decide)⟩
  · refine st1 _ ?_
    refine XS.ifYes X1.here hx rfl (pc0 := 3) (pc' := 28) rfl (hb hby d10_3) rfl ((if0 _ _).trans (feq (by decide : ¬ ((1 : Int32) = (0 : Int32)))).2) (by decide) (by decide) ?_
    refine XS.iloadN X1.here hx rfl (hb hby d10_28) rfl ?_
    refine XS.iconst X1.here hx rfl (hb hby d10_29) ?_
    refine XS.ishl X1.here hx rfl (hb hby d10_30) rfl ?_
    show Steps _ _ _ (T1.setTop (mkF m 31 #[rv u0, iv (2 : Int32), iv p2] [(.int ((2 : Int32) <<< ((1 : Int32) &&& 31)))])) _
    rw [(by decide : ((2 : Int32) <<< ((1 : Int32) &&& 31)) = (4 : Int32))]
    refine XS.istoreN X1.here hx rfl (hb hby d10_31) rfl (l' := #[rv u0, iv (4 : Int32), iv p2]) rfl ?_
    refine XS.aloadN X1.here hx rfl (hb hby d10_32) rfl rfl ?_
    refine XS.iloadN X1.here hx rfl (hb hby d10_33) rfl ?_
    refine XS.iinc X1.here hx rfl (hb hby d10_34) rfl (l' := #[rv u0, iv (5 : Int32), iv p2]) rfl ?_
    refine XS.iloadN X1.here hx rfl (hb hby d10_37) rfl ?_
    refine st2 _ ?_
    refine XS.ishr X2.here hx rfl (hb hby d10_41) rfl ?_
    refine XS.i2b X2.here hx rfl (hb hby d10_42) rfl ?_
    refine st4 _ ?_
    refine XS.aloadN X4.here hx rfl (hb hby d10_44) rfl rfl ?_
    refine XS.iloadN X4.here hx rfl (hb hby d10_45) rfl ?_
    refine XS.iloadN X4.here hx rfl (hb hby d10_46) rfl ?_
    refine st8 _ ?_
    refine XS.ishr X8.here hx rfl (hb hby d10_50) rfl ?_
    refine XS.i2b X8.here hx rfl (hb hby d10_51) rfl ?_
    refine st10 _ ?_
    show Steps _ _ _ (T10.setTop (mkF m 53 #[rv u0, iv (5 : Int32), iv p2] [])) _
    exact X10.returnOut hx Bd.returns (hb hby d10_53) hr
  · show Q_rmPC3_2 Z u0 p2 kB d0 d1 d2 d3 d4 d5 h0 n0 _ T10.heap _
    rw [e10]
    exact ⟨rfl, N11, K12, V10⟩

theorem ef_rmGC3_2 (m : MethodId) (x0 : Addr) (x1 : Int32) : entryFrame m #[(.ref x0), (.int x1)] 2 = mkF m 0 #[rv x0, iv x1] [] := by first | (simp [entryFrame, mkF, argsToLocals, Value.category]; done) | rfl
set_option maxRecDepth 65536 in
set_option maxHeartbeats 40000000 in
theorem rmGC3_2 (l : Launch) (Z : State) (a0 : Array Value) (hw : ∀ d ∈ tables_1, d.before a0 Z = true) (ws : List Jvm.Cond) (u0 : Addr) (kB : ClassId) (d0 : Int32) (d1 : Int32) (d2 : Int32) (d3 : Int32) (d4 : Int32) (d5 : Int32) (h0 : Heap) (n0 : Nat) (Z0 : n0 ≤ h0.size) (P_S_StringUTF16__assertionsDisabled : Sta Z h0 "java/lang/StringUTF16" "$assertionsDisabled" "Z" (.int (1 : Int32))) (P_S_StringUTF16_HI_BYTE_SHIFT : Sta Z h0 "java/lang/StringUTF16" "HI_BYTE_SHIFT" "I" (.int (0 : Int32))) (P_S_StringUTF16_LO_BYTE_SHIFT : Sta Z h0 "java/lang/StringUTF16" "LO_BYTE_SHIFT" "I" (.int (8 : Int32))) (P_V_u0 : Arv Z h0 u0 kB .byte (6 : Int32) [(.int d0), (.int d1), (.int d2), (.int d3), (.int d4), (.int d5)] (.int (0 : Int32))) :
    MetFree l own_y3 (head1 (Jvm.Cond.code own_y3 jdk_52_method_5_code 2 (some .char) :: ws) ({ frames := 0, cells := 0, slots := 0, locals := 0 } : Room)) (fun a U => a = #[(.ref u0), (.int (2 : Int32))] ∧ Z.Warmed39 U.vm ∧ U.heap = h0) (fun _ _ _ _ _ => True) (fun _ U o U' => ∃ v L, o = .returned v ∧ own_QP (some (.int (own_gc d4 d5))) h0 n0 v U'.heap L ∧ FrameEnd U o U' L ({ frames := 0, cells := 0, slots := 0, locals := 0 } : Room).cells ({ frames := 0, cells := 0, slots := 0, locals := 0 } : Room).slots) := by
  refine MetFree.of_bodySF (plainFor_of_name pn_11) hisR ?_
  intro p e s m args below meth c s₁ Bd hml0 hP hK
  obtain ⟨rfl, hZ, hh⟩ := hP
  have hx := Bd.exec
  have hby := Bd.bytes
  have hml : c.maxLocals = 2 := hml0
  have hown : s.vm.findClass "java/lang/StringUTF16" = some m.cls := findClass_of_methodNamed Bd.named
  have hnm := (name_of_methodNamed Bd.named Bd.method).1
  have X0 : Stand p l e ({ frames := 0, cells := 0, slots := 0, locals := 0 } : Room) s m #[(.ref u0), (.int (2 : Int32))] below meth c s₁ [] 0 0 := Stand.of_body Bd
  have e0 : s₁.heap = h0 := by rw [← hh, Bd.state]; rfl
  have N0 := Fr.nil n0
  have pre0 : ∀ t, Steps p.tables e below (s₁.setTop (mkF m 0 #[rv u0, iv (2 : Int32)] [])) t → Steps p.tables e below (s₁.setTop (entryFrame m #[(.ref u0), (.int (2 : Int32))] 2)) t := fun t k => castTop (ef_rmGC3_2 m u0 (2 : Int32)) k
  obtain ⟨T1, X1, e1, st1⟩ := getS2 X0 hx hZ hown (host := "") (Or.inl (own_g hw 42 rfl)) Via.refl e0 P_S_StringUTF16__assertionsDisabled (g := (mkF m 0 #[rv u0, iv (2 : Int32)] [])) rfl (hb hby d11_0)
  obtain ⟨cl2, Ar2, qq2, S2, N2_, H2, G2⟩ := id P_V_u0
  have hin2 : ¬ ((4 : Int32) < 0 ∨ cl2.slots.size ≤ ((4 : Int32)).toNatClampNeg) := inb_of S2 ⟨by decide, by decide⟩
  have hat2 : cl2.slots[((4 : Int32)).toNatClampNeg]? = some (.int d4) := H2.at hin2 rfl
  obtain ⟨T3, X3, e3, st3⟩ := getS2 X1 hx hZ hown (host := "") (Or.inl (own_g hw 43 rfl)) Via.refl e1 P_S_StringUTF16_HI_BYTE_SHIFT (g := (mkF m 42 #[rv u0, iv (5 : Int32)] [(.int (d4 &&& (255 : Int32)))])) rfl (hb hby d11_42)
  obtain ⟨cl4, Ar4, qq4, S4, N4_, H4, G4⟩ := id P_V_u0
  have hin4 : ¬ ((5 : Int32) < 0 ∨ cl4.slots.size ≤ ((5 : Int32)).toNatClampNeg) := inb_of S4 ⟨by decide, by decide⟩
  have hat4 : cl4.slots[((5 : Int32)).toNatClampNeg]? = some (.int d5) := H4.at hin4 rfl
  obtain ⟨T5, X5, e5, st5⟩ := getS2 X3 hx hZ hown (host := "") (Or.inl (own_g hw 44 rfl)) Via.refl e3 P_S_StringUTF16_LO_BYTE_SHIFT (g := (mkF m 53 #[rv u0, iv (5 : Int32)] [(.int (d5 &&& (255 : Int32))), (.int ((d4 &&& (255 : Int32)) <<< ((0 : Int32) &&& 31)))])) rfl (hb hby d11_53)
  obtain ⟨fs, hr, hrun, hended, hW, hsame⟩ := X5.leave (v := some (.int (nar .char ((((d4 &&& (255 : Int32)) <<< ((0 : Int32) &&& 31)) ||| ((d5 &&& (255 : Int32)) <<< ((8 : Int32) &&& 31))).toUInt32.toUInt16.toUInt32.toInt32)))) (fun h => by rw [Bd.returns] at h; cases h)
  refine ⟨_, _, pre0 _ ?_, hrun, hended, _, _, rfl, ?_, ⟨_, rfl⟩, hW, hsame.mono (by decide) (by decide)⟩
  · refine st1 _ ?_
    refine XS.ifYes X1.here hx rfl (pc0 := 3) (pc' := 28) rfl (hb hby d11_3) rfl ((if0 _ _).trans (feq (by decide : ¬ ((1 : Int32) = (0 : Int32)))).2) (by decide) (by decide) ?_
    refine XS.iloadN X1.here hx rfl (hb hby d11_28) rfl ?_
    refine XS.iconst X1.here hx rfl (hb hby d11_29) ?_
    refine XS.ishl X1.here hx rfl (hb hby d11_30) rfl ?_
    show Steps _ _ _ (T1.setTop (mkF m 31 #[rv u0, iv (2 : Int32)] [(.int ((2 : Int32) <<< ((1 : Int32) &&& 31)))])) _
    rw [(by decide : ((2 : Int32) <<< ((1 : Int32) &&& 31)) = (4 : Int32))]
    refine XS.istoreN X1.here hx rfl (hb hby d11_31) rfl (l' := #[rv u0, iv (4 : Int32)]) rfl ?_
    refine XS.aloadN X1.here hx rfl (hb hby d11_32) rfl rfl ?_
    refine XS.iloadN X1.here hx rfl (hb hby d11_33) rfl ?_
    refine XS.iinc X1.here hx rfl (hb hby d11_34) rfl (l' := #[rv u0, iv (5 : Int32)]) rfl ?_
    refine X1.baloadBytes hx (j := (4 : Int32)) (v := (.int d4)) (by rw [e1]; exact Ar2.1) (State.isArrayOf_alike hZ.alike Ar2.2.1) Ar2.2.2 hin2 hat2 (g := (mkF m 37 #[rv u0, iv (5 : Int32)] [(.int (4 : Int32)), (.ref u0)])) rfl rfl (hb hby d11_37) _ ?_
    refine XS.sipush X1.here hx rfl (hb hby d11_38) ?_
    refine XS.iand X1.here hx rfl (hb hby d11_41) rfl ?_
    refine st3 _ ?_
    refine XS.ishl X3.here hx rfl (hb hby d11_45) rfl ?_
    refine XS.aloadN X3.here hx rfl (hb hby d11_46) rfl rfl ?_
    refine XS.iloadN X3.here hx rfl (hb hby d11_47) rfl ?_
    refine X3.baloadBytes hx (j := (5 : Int32)) (v := (.int d5)) (by rw [e3]; exact Ar4.1) (State.isArrayOf_alike hZ.alike Ar4.2.1) Ar4.2.2 hin4 hat4 (g := (mkF m 48 #[rv u0, iv (5 : Int32)] [(.int (5 : Int32)), (.ref u0), (.int ((d4 &&& (255 : Int32)) <<< ((0 : Int32) &&& 31)))])) rfl rfl (hb hby d11_48) _ ?_
    refine XS.sipush X3.here hx rfl (hb hby d11_49) ?_
    refine XS.iand X3.here hx rfl (hb hby d11_52) rfl ?_
    refine st5 _ ?_
    refine XS.ishl X5.here hx rfl (hb hby d11_56) rfl ?_
    refine XS.ior X5.here hx rfl (hb hby d11_57) rfl ?_
    refine XS.i2c X5.here hx rfl (hb hby d11_58) rfl ?_
    show Steps _ _ _ (T5.setTop (mkF m 59 #[rv u0, iv (5 : Int32)] [(.int ((((d4 &&& (255 : Int32)) <<< ((0 : Int32) &&& 31)) ||| ((d5 &&& (255 : Int32)) <<< ((8 : Int32) &&& 31))).toUInt32.toUInt16.toUInt32.toInt32))])) _
    exact retN X5 hx (t := .char) Bd.returns (by simp) (hb hby d11_59) hr
  · show own_QP (some (.int (own_gc d4 d5))) h0 n0 _ T5.heap _
    rw [e5]
    exact ⟨(by first | rfl | simp []), N0, rfl⟩

theorem ef_rmTB3 (m : MethodId) (x0 : Addr) (x1 : Int32) (x2 : Int32) : entryFrame m #[(.ref x0), (.int x1), (.int x2)] 5 = mkF m 0 #[rv x0, iv x1, iv x2, .unset, .unset] [] := by first | (simp [entryFrame, mkF, argsToLocals, Value.category]; done) | rfl
def Q_rmTB3 (Z : State) (u0 : Addr) (kA : ClassId) (c0 : Int32) (c1 : Int32) (c2 : Int32) (h0 : Heap) (n0 : Nat) (v : Option Value) (h : Heap) (L : List Loc) : Prop := ∃ (t : Addr), ∃ (kt : ClassId), (v = (some (.ref t)) ∧ Fr n0 L ∧ Keep h0 h [] ∧ h0.size ≤ t ∧ Arv Z h t kt .byte (6 : Int32) [(.int (((c0 >>> ((0 : Int32) &&& 31)).toInt8.toInt32).toInt8.toInt32)), (.int (((c0 >>> ((8 : Int32) &&& 31)).toInt8.toInt32).toInt8.toInt32)), (.int (((c1 >>> ((0 : Int32) &&& 31)).toInt8.toInt32).toInt8.toInt32)), (.int (((c1 >>> ((8 : Int32) &&& 31)).toInt8.toInt32).toInt8.toInt32)), (.int (((c2 >>> ((0 : Int32) &&& 31)).toInt8.toInt32).toInt8.toInt32)), (.int (((c2 >>> ((8 : Int32) &&& 31)).toInt8.toInt32).toInt8.toInt32))] (.int (0 : Int32)))
set_option maxRecDepth 65536 in
set_option maxHeartbeats 40000000 in
theorem rmTB3 (l : Launch) (Z : State) (a0 : Array Value) (hw : ∀ d ∈ tables_1, d.before a0 Z = true) (ws : List Jvm.Cond) (u0 : Addr) (kA : ClassId) (c0 : Int32) (c1 : Int32) (c2 : Int32) (h0 : Heap) (n0 : Nat) (Z0 : n0 ≤ h0.size) (P_S_StringUTF16__assertionsDisabled : Sta Z h0 "java/lang/StringUTF16" "$assertionsDisabled" "Z" (.int (1 : Int32))) (P_S_StringUTF16_HI_BYTE_SHIFT : Sta Z h0 "java/lang/StringUTF16" "HI_BYTE_SHIFT" "I" (.int (0 : Int32))) (P_S_StringUTF16_LO_BYTE_SHIFT : Sta Z h0 "java/lang/StringUTF16" "LO_BYTE_SHIFT" "I" (.int (8 : Int32))) (P_V_u0 : Arv Z h0 u0 kA .char (3 : Int32) [(.int c0), (.int c1), (.int c2)] (.int (0 : Int32))) :
    MetFree l own_y4 (head1 (Jvm.Cond.code own_y4 jdk_52_method_14_code 5 (some (.array .byte)) :: ws) ({ frames := 2, cells := 1, slots := 6, locals := 24 } : Room)) (fun a U => a = #[(.ref u0), (.int (0 : Int32)), (.int (3 : Int32))] ∧ Z.Warmed39 U.vm ∧ U.heap = h0) (fun _ _ _ _ _ => True) (fun _ U o U' => ∃ v L, o = .returned v ∧ Q_rmTB3 Z u0 kA c0 c1 c2 h0 n0 v U'.heap L ∧ FrameEnd U o U' L ({ frames := 2, cells := 1, slots := 6, locals := 24 } : Room).cells ({ frames := 2, cells := 1, slots := 6, locals := 24 } : Room).slots) := by
  refine MetFree.of_bodySF (plainFor_of_name pn_7) hisR ?_
  intro p e s m args below meth c s₁ Bd hml0 hP hK
  obtain ⟨rfl, hZ, hh⟩ := hP
  have hx := Bd.exec
  have hby := Bd.bytes
  have hml : c.maxLocals = 5 := hml0
  have hown : s.vm.findClass "java/lang/StringUTF16" = some m.cls := findClass_of_methodNamed Bd.named
  have hnm := (name_of_methodNamed Bd.named Bd.method).1
  have X0 : Stand p l e ({ frames := 2, cells := 1, slots := 6, locals := 24 } : Room) s m #[(.ref u0), (.int (0 : Int32)), (.int (3 : Int32))] below meth c s₁ [] 0 0 := Stand.of_body Bd
  have e0 : s₁.heap = h0 := by rw [← hh, Bd.state]; rfl
  have N0 := Fr.nil n0
  have pre0 : ∀ t, Steps p.tables e below (s₁.setTop (mkF m 0 #[rv u0, iv (0 : Int32), iv (3 : Int32), .unset, .unset] [])) t → Steps p.tables e below (s₁.setTop (entryFrame m #[(.ref u0), (.int (0 : Int32)), (.int (3 : Int32))] 5)) t := fun t k => castTop (ef_rmTB3 m u0 (0 : Int32) (3 : Int32)) k
  obtain ⟨_, _, ⟨T1, L1, k1, n1⟩, -, X1, ⟨Lc1, hQ1, l1, y1, z1⟩, st1⟩ := Jvm.LawKit.callS X0 hx (y := own_y1) hown (mvT hZ (own_g hw 32 rfl)) (mvT hZ (own_g hw 33 rfl)) (mvT hZ (own_g hw 23 rfl)) (mvT hZ (own_g hw 34 rfl)) (by decide) (backOf (W := 0) (rmNF3 l Z a0 hw []  h0 n0 Z0 ) hZ (own_g hw 34 rfl) (own_g hw 23 rfl) (by decide) (by decide)) (g := (mkF m 1 #[rv u0, iv (0 : Int32), iv (3 : Int32), .unset, .unset] [(.int (3 : Int32))])) rfl (by rw [hml]; rfl) (argsL := [(.int (3 : Int32))]) (rest := []) (lenOf pd__I__B rfl) rfl (by show 2 * 0 + _ ≤ _; exact Nat.le_of_eq rfl) (hb hby d7_1) (fun _ _ => ⟨rfl, e0, (by decide : 0 + 1 ≤ _), (by decide : 0 + 6 ≤ _)⟩)
  dsimp only [Pt.U, Pt.locs, Pt.cells, Pt.slots] at X1 l1 y1 z1 st1 hQ1
  subst l1 y1 z1
  obtain ⟨t_1, kt_1, rfl, N1q, K1, sx1_0, f2⟩ := hQ1
  have ot_1 : n0 ≤ t_1 := Nat.le_trans Z0 sx1_0
  have zt_1 : h0.size ≤ t_1 := Nat.le_trans (Keep.refl h0 []).1 sx1_0
  have ne3 : u0 ≠ t_1 := Nat.ne_of_lt (Nat.lt_of_lt_of_le P_V_u0.lt sx1_0)
  have KK1 : Keep h0 T1.heap [] := Keep.trans (Keep.refl h0 []) K1 all0
  have N1 := Fr.app N0 N1q
  have f4 : Arv Z T1.heap u0 kA .char (3 : Int32) [(.int c0), (.int c1), (.int c2)] (.int (0 : Int32)) := (P_V_u0.keep K1 nin0)
  obtain ⟨cl5, Ar5, qq5, S5, N5_, H5, G5⟩ := id f4
  have hin5 : ¬ ((0 : Int32) < 0 ∨ cl5.slots.size ≤ ((0 : Int32)).toNatClampNeg) := inb_of S5 ⟨by decide, by decide⟩
  have hat5 : cl5.slots[((0 : Int32)).toNatClampNeg]? = some (.int c0) := H5.at hin5 rfl
  have f6 : Sta Z T1.heap "java/lang/StringUTF16" "$assertionsDisabled" "Z" (.int (1 : Int32)) := (own_staKeep P_S_StringUTF16__assertionsDisabled K1 ns0)
  have f7 : Sta Z T1.heap "java/lang/StringUTF16" "HI_BYTE_SHIFT" "I" (.int (0 : Int32)) := (own_staKeep P_S_StringUTF16_HI_BYTE_SHIFT K1 ns0)
  have f8 : Sta Z T1.heap "java/lang/StringUTF16" "LO_BYTE_SHIFT" "I" (.int (8 : Int32)) := (own_staKeep P_S_StringUTF16_LO_BYTE_SHIFT K1 ns0)
  have f9 : n0 ≤ T1.heap.size := (Nat.le_trans Z0 K1.1)
  obtain ⟨_, _, ⟨T10, L10, k10, n10⟩, -, X10, ⟨Lc10, hQ10, l10, y10, z10⟩, st10⟩ := Jvm.LawKit.callS X1 hx (y := own_y2) hown (mvT hZ (own_g hw 39 rfl)) (mvT hZ (own_g hw 40 rfl)) (mvT hZ (own_g hw 23 rfl)) (mvT hZ (own_g hw 41 rfl)) (by decide) (backOf (W := 0) (rmPC3_0 l Z a0 hw [] t_1 c0 kt_1 (0 : Int32) (0 : Int32) (0 : Int32) (0 : Int32) (0 : Int32) (0 : Int32) T1.heap n0 f9 f6 f7 f8 f2 ot_1) hZ (own_g hw 41 rfl) (own_g hw 23 rfl) (by decide) (by decide)) (g := (mkF m 20 #[rv u0, iv (0 : Int32), iv (3 : Int32), rv t_1, iv (0 : Int32)] [(.int c0), (.int (0 : Int32)), (.ref t_1)])) rfl (by rw [hml]; rfl) (argsL := [(.ref t_1), (.int (0 : Int32)), (.int c0)]) (rest := []) (lenOf pd___BII_V rfl) rfl (by show 2 * 0 + _ ≤ _; exact Nat.le_of_eq rfl) (hb hby d7_20) (fun _ _ => ⟨rfl, rfl, (by decide : 1 + 0 ≤ _), (by decide : 6 + 0 ≤ _)⟩)
  dsimp only [Pt.U, Pt.locs, Pt.cells, Pt.slots] at X10 l10 y10 z10 st10 hQ10
  subst l10 y10 z10
  obtain ⟨rfl, N10q, K10, f11⟩ := hQ10
  have KK10 : Keep h0 T10.heap [] := Keep.trans KK1 K10 (allS (Or.inr zt_1) all0)
  have N10 := Fr.app N1 N10q
  have f12 : Arv Z T10.heap u0 kA .char (3 : Int32) [(.int c0), (.int c1), (.int c2)] (.int (0 : Int32)) := (f4.keep K10 (ninS ne3 nin0))
  obtain ⟨cl13, Ar13, qq13, S13, N13_, H13, G13⟩ := id f12
  have hin13 : ¬ ((1 : Int32) < 0 ∨ cl13.slots.size ≤ ((1 : Int32)).toNatClampNeg) := inb_of S13 ⟨by decide, by decide⟩
  have hat13 : cl13.slots[((1 : Int32)).toNatClampNeg]? = some (.int c1) := H13.at hin13 rfl
  have f14 : Sta Z T10.heap "java/lang/StringUTF16" "$assertionsDisabled" "Z" (.int (1 : Int32)) := (own_staKeep f6 K10 (nsS f2.nostat ns0))
  have f15 : Sta Z T10.heap "java/lang/StringUTF16" "HI_BYTE_SHIFT" "I" (.int (0 : Int32)) := (own_staKeep f7 K10 (nsS f2.nostat ns0))
  have f16 : Sta Z T10.heap "java/lang/StringUTF16" "LO_BYTE_SHIFT" "I" (.int (8 : Int32)) := (own_staKeep f8 K10 (nsS f2.nostat ns0))
  have f17 : n0 ≤ T10.heap.size := (Nat.le_trans f9 K10.1)
  obtain ⟨_, _, ⟨T18, L18, k18, n18⟩, -, X18, ⟨Lc18, hQ18, l18, y18, z18⟩, st18⟩ := Jvm.LawKit.callS X10 hx (y := own_y2) hown (mvT hZ (own_g hw 39 rfl)) (mvT hZ (own_g hw 40 rfl)) (mvT hZ (own_g hw 23 rfl)) (mvT hZ (own_g hw 41 rfl)) (by decide) (backOf (W := 0) (rmPC3_1 l Z a0 hw [] t_1 c1 kt_1 (((c0 >>> ((0 : Int32) &&& 31)).toInt8.toInt32).toInt8.toInt32) (((c0 >>> ((8 : Int32) &&& 31)).toInt8.toInt32).toInt8.toInt32) (0 : Int32) (0 : Int32) (0 : Int32) (0 : Int32) T10.heap n0 f17 f14 f15 f16 f11 ot_1) hZ (own_g hw 41 rfl) (own_g hw 23 rfl) (by decide) (by decide)) (g := (mkF m 20 #[rv u0, iv (1 : Int32), iv (3 : Int32), rv t_1, iv (1 : Int32)] [(.int c1), (.int (1 : Int32)), (.ref t_1)])) rfl (by rw [hml]; rfl) (argsL := [(.ref t_1), (.int (1 : Int32)), (.int c1)]) (rest := []) (lenOf pd___BII_V rfl) rfl (by show 2 * 0 + _ ≤ _; exact Nat.le_of_eq rfl) (hb hby d7_20) (fun _ _ => ⟨rfl, rfl, (by decide : 1 + 0 ≤ _), (by decide : 6 + 0 ≤ _)⟩)
  dsimp only [Pt.U, Pt.locs, Pt.cells, Pt.slots] at X18 l18 y18 z18 st18 hQ18
  subst l18 y18 z18
  obtain ⟨rfl, N18q, K18, f19⟩ := hQ18
  have KK18 : Keep h0 T18.heap [] := Keep.trans KK10 K18 (allS (Or.inr zt_1) all0)
  have N18 := Fr.app N10 N18q
  have f20 : Arv Z T18.heap u0 kA .char (3 : Int32) [(.int c0), (.int c1), (.int c2)] (.int (0 : Int32)) := (f12.keep K18 (ninS ne3 nin0))
  obtain ⟨cl21, Ar21, qq21, S21, N21_, H21, G21⟩ := id f20
  have hin21 : ¬ ((2 : Int32) < 0 ∨ cl21.slots.size ≤ ((2 : Int32)).toNatClampNeg) := inb_of S21 ⟨by decide, by decide⟩
  have hat21 : cl21.slots[((2 : Int32)).toNatClampNeg]? = some (.int c2) := H21.at hin21 rfl
  have f22 : Sta Z T18.heap "java/lang/StringUTF16" "$assertionsDisabled" "Z" (.int (1 : Int32)) := (own_staKeep f14 K18 (nsS f11.nostat ns0))
  have f23 : Sta Z T18.heap "java/lang/StringUTF16" "HI_BYTE_SHIFT" "I" (.int (0 : Int32)) := (own_staKeep f15 K18 (nsS f11.nostat ns0))
  have f24 : Sta Z T18.heap "java/lang/StringUTF16" "LO_BYTE_SHIFT" "I" (.int (8 : Int32)) := (own_staKeep f16 K18 (nsS f11.nostat ns0))
  have f25 : n0 ≤ T18.heap.size := (Nat.le_trans f17 K18.1)
  obtain ⟨_, _, ⟨T26, L26, k26, n26⟩, -, X26, ⟨Lc26, hQ26, l26, y26, z26⟩, st26⟩ := Jvm.LawKit.callS X18 hx (y := own_y2) hown (mvT hZ (own_g hw 39 rfl)) (mvT hZ (own_g hw 40 rfl)) (mvT hZ (own_g hw 23 rfl)) (mvT hZ (own_g hw 41 rfl)) (by decide) (backOf (W := 0) (rmPC3_2 l Z a0 hw [] t_1 c2 kt_1 (((c0 >>> ((0 : Int32) &&& 31)).toInt8.toInt32).toInt8.toInt32) (((c0 >>> ((8 : Int32) &&& 31)).toInt8.toInt32).toInt8.toInt32) (((c1 >>> ((0 : Int32) &&& 31)).toInt8.toInt32).toInt8.toInt32) (((c1 >>> ((8 : Int32) &&& 31)).toInt8.toInt32).toInt8.toInt32) (0 : Int32) (0 : Int32) T18.heap n0 f25 f22 f23 f24 f19 ot_1) hZ (own_g hw 41 rfl) (own_g hw 23 rfl) (by decide) (by decide)) (g := (mkF m 20 #[rv u0, iv (2 : Int32), iv (3 : Int32), rv t_1, iv (2 : Int32)] [(.int c2), (.int (2 : Int32)), (.ref t_1)])) rfl (by rw [hml]; rfl) (argsL := [(.ref t_1), (.int (2 : Int32)), (.int c2)]) (rest := []) (lenOf pd___BII_V rfl) rfl (by show 2 * 0 + _ ≤ _; exact Nat.le_of_eq rfl) (hb hby d7_20) (fun _ _ => ⟨rfl, rfl, (by decide : 1 + 0 ≤ _), (by decide : 6 + 0 ≤ _)⟩)
  dsimp only [Pt.U, Pt.locs, Pt.cells, Pt.slots] at X26 l26 y26 z26 st26 hQ26
  subst l26 y26 z26
  obtain ⟨rfl, N26q, K26, f27⟩ := hQ26
  have KK26 : Keep h0 T26.heap [] := Keep.trans KK18 K26 (allS (Or.inr zt_1) all0)
  have N26 := Fr.app N18 N26q
  obtain ⟨fs, hr, hrun, hended, hW, hsame⟩ := X26.leave (v := some (.ref t_1)) (fun h => by rw [Bd.returns] at h; cases h)
  refine ⟨_, _, pre0 _ ?_, hrun, hended, _, _, rfl, ?_, ⟨_, rfl⟩, hW, hsame.mono (by decide) (by decide)⟩
  · refine XS.iloadN X0.here hx rfl (hb hby d7_0) rfl ?_
    show Steps _ _ _ (s₁.setTop (mkF m 1 #[rv u0, iv (0 : Int32), iv (3 : Int32), .unset, .unset] [(.int (3 : Int32))])) _
    refine st1 _ ?_
    refine XS.astoreN X1.here hx rfl (hb hby d7_4) rfl rfl (l' := #[rv u0, iv (0 : Int32), iv (3 : Int32), rv t_1, .unset]) rfl ?_
    refine XS.iconst X1.here hx rfl (hb hby d7_5) ?_
    refine XS.istore X1.here hx rfl (hb hby d7_6) rfl (l' := #[rv u0, iv (0 : Int32), iv (3 : Int32), rv t_1, iv (0 : Int32)]) rfl ?_
    refine XS.iload X1.here hx rfl (hb hby d7_8) rfl ?_
    refine XS.iloadN X1.here hx rfl (hb hby d7_10) rfl ?_
    refine XS.icmpNo X1.here hx rfl (hb hby d7_11) rfl (tlt (by decide : (0 : Int32) < (3 : Int32))).2.1 ?_
    refine XS.aloadN X1.here hx rfl (hb hby d7_14) rfl rfl ?_
    refine XS.iload X1.here hx rfl (hb hby d7_15) rfl ?_
    refine XS.aloadN X1.here hx rfl (hb hby d7_17) rfl rfl ?_
    refine XS.iloadN X1.here hx rfl (hb hby d7_18) rfl ?_
    refine X1.caload hx (j := (0 : Int32)) (v := (.int c0)) Ar5.1 (State.isArrayOf_alike hZ.alike Ar5.2.1) Ar5.2.2 hin5 hat5 (g := (mkF m 19 #[rv u0, iv (0 : Int32), iv (3 : Int32), rv t_1, iv (0 : Int32)] [(.int (0 : Int32)), (.ref u0), (.int (0 : Int32)), (.ref t_1)])) rfl rfl (hb hby d7_19) _ ?_
    show Steps _ _ _ (T1.setTop (mkF m 20 #[rv u0, iv (0 : Int32), iv (3 : Int32), rv t_1, iv (0 : Int32)] [(.int c0), (.int (0 : Int32)), (.ref t_1)])) _
    refine st10 _ ?_
    refine XS.iinc X10.here hx rfl (hb hby d7_23) rfl (l' := #[rv u0, iv (1 : Int32), iv (3 : Int32), rv t_1, iv (0 : Int32)]) rfl ?_
    refine XS.iinc X10.here hx rfl (hb hby d7_26) rfl (l' := #[rv u0, iv (1 : Int32), iv (3 : Int32), rv t_1, iv (1 : Int32)]) rfl ?_
    refine XS.goto X10.here hx rfl (pc0 := 29) (pc' := 8) rfl (hb hby d7_29) (by decide) (by decide) ?_
    refine XS.iload X10.here hx rfl (hb hby d7_8) rfl ?_
    refine XS.iloadN X10.here hx rfl (hb hby d7_10) rfl ?_
    refine XS.icmpNo X10.here hx rfl (hb hby d7_11) rfl (tlt (by decide : (1 : Int32) < (3 : Int32))).2.1 ?_
    refine XS.aloadN X10.here hx rfl (hb hby d7_14) rfl rfl ?_
    refine XS.iload X10.here hx rfl (hb hby d7_15) rfl ?_
    refine XS.aloadN X10.here hx rfl (hb hby d7_17) rfl rfl ?_
    refine XS.iloadN X10.here hx rfl (hb hby d7_18) rfl ?_
    refine X10.caload hx (j := (1 : Int32)) (v := (.int c1)) Ar13.1 (State.isArrayOf_alike hZ.alike Ar13.2.1) Ar13.2.2 hin13 hat13 (g := (mkF m 19 #[rv u0, iv (1 : Int32), iv (3 : Int32), rv t_1, iv (1 : Int32)] [(.int (1 : Int32)), (.ref u0), (.int (1 : Int32)), (.ref t_1)])) rfl rfl (hb hby d7_19) _ ?_
    show Steps _ _ _ (T10.setTop (mkF m 20 #[rv u0, iv (1 : Int32), iv (3 : Int32), rv t_1, iv (1 : Int32)] [(.int c1), (.int (1 : Int32)), (.ref t_1)])) _
    refine st18 _ ?_
    show Steps _ _ _ (T18.setTop (mkF m 23 #[rv u0, iv (1 : Int32), iv (3 : Int32), rv t_1, iv (1 : Int32)] [])) _
    refine XS.iinc X18.here hx rfl (hb hby d7_23) rfl (l' := #[rv u0, iv (2 : Int32), iv (3 : Int32), rv t_1, iv (1 : Int32)]) rfl ?_
    refine XS.iinc X18.here hx rfl (hb hby d7_26) rfl (l' := #[rv u0, iv (2 : Int32), iv (3 : Int32), rv t_1, iv (2 : Int32)]) rfl ?_
    refine XS.goto X18.here hx rfl (pc0 := 29) (pc' := 8) rfl (hb hby d7_29) (by decide) (by decide) ?_
    refine XS.iload X18.here hx rfl (hb hby d7_8) rfl ?_
    refine XS.iloadN X18.here hx rfl (hb hby d7_10) rfl ?_
    refine XS.icmpNo X18.here hx rfl (hb hby d7_11) rfl (tlt (by decide : (2 : Int32) < (3 : Int32))).2.1 ?_
    refine XS.aloadN X18.here hx rfl (hb hby d7_14) rfl rfl ?_
    refine XS.iload X18.here hx rfl (hb hby d7_15) rfl ?_
    refine XS.aloadN X18.here hx rfl (hb hby d7_17) rfl rfl ?_
    refine XS.iloadN X18.here hx rfl (hb hby d7_18) rfl ?_
    refine X18.caload hx (j := (2 : Int32)) (v := (.int c2)) Ar21.1 (State.isArrayOf_alike hZ.alike Ar21.2.1) Ar21.2.2 hin21 hat21 (g := (mkF m 19 #[rv u0, iv (2 : Int32), iv (3 : Int32), rv t_1, iv (2 : Int32)] [(.int (2 : Int32)), (.ref u0), (.int (2 : Int32)), (.ref t_1)])) rfl rfl (hb hby d7_19) _ ?_
    show Steps _ _ _ (T18.setTop (mkF m 20 #[rv u0, iv (2 : Int32), iv (3 : Int32), rv t_1, iv (2 : Int32)] [(.int c2), (.int (2 : Int32)), (.ref t_1)])) _
    refine st26 _ ?_
    refine XS.iinc X26.here hx rfl (hb hby d7_23) rfl (l' := #[rv u0, iv (3 : Int32), iv (3 : Int32), rv t_1, iv (2 : Int32)]) rfl ?_
    refine XS.iinc X26.here hx rfl (hb hby d7_26) rfl (l' := #[rv u0, iv (3 : Int32), iv (3 : Int32), rv t_1, iv (3 : Int32)]) rfl ?_
    refine XS.goto X26.here hx rfl (pc0 := 29) (pc' := 8) rfl (hb hby d7_29) (by decide) (by decide) ?_
    refine XS.iload X26.here hx rfl (hb hby d7_8) rfl ?_
    refine XS.iloadN X26.here hx rfl (hb hby d7_10) rfl ?_
    refine XS.icmpYes X26.here hx rfl (pc0 := 11) (pc' := 32) rfl (hb hby d7_11) rfl (flt (by decide : ¬ ((3 : Int32) < (3 : Int32)))).2.1 (by decide) (by decide) ?_
    refine XS.aloadN X26.here hx rfl (hb hby d7_32) rfl rfl ?_
    show Steps _ _ _ (T26.setTop (mkF m 33 #[rv u0, iv (3 : Int32), iv (3 : Int32), rv t_1, iv (3 : Int32)] [(.ref t_1)])) _
    exact retOut X26 hx Bd.returns rfl (Or.inr (Or.inr (Or.inr (Or.inr ⟨rfl, rfl, rfl⟩)))) (hb hby d7_33) hr
  · show Q_rmTB3 Z u0 kA c0 c1 c2 h0 n0 _ T26.heap _
    exact ⟨t_1, kt_1, rfl, N26, KK26, zt_1, f27⟩

theorem ef_rmC5_3_0 (m : MethodId) (x0 : Addr) (x1 : Int32) (x2 : Addr) (x3 : Int32) (x4 : Int32) : entryFrame m #[(.ref x0), (.int x1), (.ref x2), (.int x3), (.int x4)] 7 = mkF m 0 #[rv x0, iv x1, rv x2, iv x3, iv x4, .unset, .unset] [] := by first | (simp [entryFrame, mkF, argsToLocals, Value.category]; done) | rfl
def Q_rmC5_3_0 (Z : State) (u0 : Addr) (u2 : Addr) (kA : ClassId) (c0 : Int32) (c1 : Int32) (c2 : Int32) (kB : ClassId) (d0 : Int32) (d1 : Int32) (d2 : Int32) (h0 : Heap) (n0 : Nat) (v : Option Value) (h : Heap) (L : List Loc) : Prop := (v = (some (.int (0 : Int32))) ∧ Fr n0 L ∧ Keep h0 h [u2] ∧ Arv Z h u2 kB .byte (3 : Int32) [(.int d0), (.int d1), (.int d2)] (.int (0 : Int32)))
set_option maxRecDepth 65536 in
set_option maxHeartbeats 40000000 in
theorem rmC5_3_0 (l : Launch) (Z : State) (a0 : Array Value) (hw : ∀ d ∈ tables_1, d.before a0 Z = true) (ws : List Jvm.Cond) (u0 : Addr) (u2 : Addr) (kA : ClassId) (c0 : Int32) (c1 : Int32) (c2 : Int32) (kB : ClassId) (d0 : Int32) (d1 : Int32) (d2 : Int32) (h0 : Heap) (n0 : Nat) (Z0 : n0 ≤ h0.size) (P_V_u0 : Arv Z h0 u0 kA .char (3 : Int32) [(.int c0), (.int c1), (.int c2)] (.int (0 : Int32))) (P_V_u2 : Arv Z h0 u2 kB .byte (3 : Int32) [(.int d0), (.int d1), (.int d2)] (.int (0 : Int32))) (neA : u0 ≠ u2) (hp0 : (255 : Int32) < c0) (g_u2 : n0 ≤ u2) :
    MetFree l own_y5 (head1 (Jvm.Cond.code own_y5 jdk_52_method_21_code 7 (some .int) :: ws) ({ frames := 0, cells := 0, slots := 0, locals := 0 } : Room)) (fun a U => a = #[(.ref u0), (.int (0 : Int32)), (.ref u2), (.int (0 : Int32)), (.int (3 : Int32))] ∧ Z.Warmed39 U.vm ∧ U.heap = h0) (fun _ _ _ _ _ => True) (fun _ U o U' => ∃ v L, o = .returned v ∧ Q_rmC5_3_0 Z u0 u2 kA c0 c1 c2 kB d0 d1 d2 h0 n0 v U'.heap L ∧ FrameEnd U o U' L ({ frames := 0, cells := 0, slots := 0, locals := 0 } : Room).cells ({ frames := 0, cells := 0, slots := 0, locals := 0 } : Room).slots) := by
  refine MetFree.of_bodySF (plainFor_of_name pn_6) hisR ?_
  intro p e s m args below meth c s₁ Bd hml0 hP hK
  obtain ⟨rfl, hZ, hh⟩ := hP
  have hx := Bd.exec
  have hby := Bd.bytes
  have hml : c.maxLocals = 7 := hml0
  have hown : s.vm.findClass "java/lang/StringUTF16" = some m.cls := findClass_of_methodNamed Bd.named
  have hnm := (name_of_methodNamed Bd.named Bd.method).1
  have X0 : Stand p l e ({ frames := 0, cells := 0, slots := 0, locals := 0 } : Room) s m #[(.ref u0), (.int (0 : Int32)), (.ref u2), (.int (0 : Int32)), (.int (3 : Int32))] below meth c s₁ [] 0 0 := Stand.of_body Bd
  have e0 : s₁.heap = h0 := by rw [← hh, Bd.state]; rfl
  have N0 := Fr.nil n0
  have pre0 : ∀ t, Steps p.tables e below (s₁.setTop (mkF m 0 #[rv u0, iv (0 : Int32), rv u2, iv (0 : Int32), iv (3 : Int32), .unset, .unset] [])) t → Steps p.tables e below (s₁.setTop (entryFrame m #[(.ref u0), (.int (0 : Int32)), (.ref u2), (.int (0 : Int32)), (.int (3 : Int32))] 7)) t := fun t k => castTop (ef_rmC5_3_0 m u0 (0 : Int32) u2 (0 : Int32) (3 : Int32)) k
  obtain ⟨cl1, Ar1, qq1, S1, N1_, H1, G1⟩ := id P_V_u0
  have hin1 : ¬ ((0 : Int32) < 0 ∨ cl1.slots.size ≤ ((0 : Int32)).toNatClampNeg) := inb_of S1 ⟨by decide, by decide⟩
  have hat1 : cl1.slots[((0 : Int32)).toNatClampNeg]? = some (.int c0) := H1.at hin1 rfl
  obtain ⟨fs, hr, hrun, hended, hW, hsame⟩ := X0.leave (v := some (.int (0 : Int32))) (fun h => by rw [Bd.returns] at h; cases h)
  refine ⟨_, _, pre0 _ ?_, hrun, hended, _, _, rfl, ?_, ⟨_, rfl⟩, hW, hsame.mono (by decide) (by decide)⟩
  · refine XS.iconst X0.here hx rfl (hb hby d6_0) ?_
    refine XS.istore X0.here hx rfl (hb hby d6_1) rfl (l' := #[rv u0, iv (0 : Int32), rv u2, iv (0 : Int32), iv (3 : Int32), iv (0 : Int32), .unset]) rfl ?_
    refine XS.iload X0.here hx rfl (hb hby d6_3) rfl ?_
    refine XS.iload X0.here hx rfl (hb hby d6_5) rfl ?_
    refine XS.icmpNo X0.here hx rfl (hb hby d6_7) rfl (tlt (by decide : (0 : Int32) < (3 : Int32))).2.1 ?_
    refine XS.aloadN X0.here hx rfl (hb hby d6_10) rfl rfl ?_
    refine XS.iloadN X0.here hx rfl (hb hby d6_11) rfl ?_
    refine X0.caload hx (j := (0 : Int32)) (v := (.int c0)) (by rw [e0]; exact Ar1.1) (State.isArrayOf_alike hZ.alike Ar1.2.1) Ar1.2.2 hin1 hat1 (g := (mkF m 12 #[rv u0, iv (0 : Int32), rv u2, iv (0 : Int32), iv (3 : Int32), iv (0 : Int32), .unset] [(.int (0 : Int32)), (.ref u0)])) rfl rfl (hb hby d6_12) _ ?_
    refine XS.istore X0.here hx rfl (hb hby d6_13) rfl (l' := #[rv u0, iv (0 : Int32), rv u2, iv (0 : Int32), iv (3 : Int32), iv (0 : Int32), iv c0]) rfl ?_
    refine XS.iload X0.here hx rfl (hb hby d6_15) rfl ?_
    refine XS.sipush X0.here hx rfl (hb hby d6_17) ?_
    refine XS.icmpNo X0.here hx rfl (hb hby d6_20) rfl (tlt hp0).2.2.2 ?_
    refine XS.iload X0.here hx rfl (hb hby d6_23) rfl ?_
    show Steps _ _ _ (s₁.setTop (mkF m 25 #[rv u0, iv (0 : Int32), rv u2, iv (0 : Int32), iv (3 : Int32), iv (0 : Int32), iv c0] [(.int (0 : Int32))])) _
    exact retI X0 hx Bd.returns (hb hby d6_25) hr
  · show Q_rmC5_3_0 Z u0 u2 kA c0 c1 c2 kB d0 d1 d2 h0 n0 _ s₁.heap _
    rw [e0]
    exact ⟨rfl, N0, (Keep.refl h0 [u2]), P_V_u2⟩

theorem ef_rmC5_3_1 (m : MethodId) (x0 : Addr) (x1 : Int32) (x2 : Addr) (x3 : Int32) (x4 : Int32) : entryFrame m #[(.ref x0), (.int x1), (.ref x2), (.int x3), (.int x4)] 7 = mkF m 0 #[rv x0, iv x1, rv x2, iv x3, iv x4, .unset, .unset] [] := by first | (simp [entryFrame, mkF, argsToLocals, Value.category]; done) | rfl
def Q_rmC5_3_1 (Z : State) (u0 : Addr) (u2 : Addr) (kA : ClassId) (c0 : Int32) (c1 : Int32) (c2 : Int32) (kB : ClassId) (d0 : Int32) (d1 : Int32) (d2 : Int32) (h0 : Heap) (n0 : Nat) (v : Option Value) (h : Heap) (L : List Loc) : Prop := (v = (some (.int (1 : Int32))) ∧ Fr n0 L ∧ Keep h0 h [u2] ∧ Arv Z h u2 kB .byte (3 : Int32) [(.int ((c0.toInt8.toInt32).toInt8.toInt32)), (.int d1), (.int d2)] (.int (0 : Int32)))
set_option maxRecDepth 65536 in
set_option maxHeartbeats 40000000 in
theorem rmC5_3_1 (l : Launch) (Z : State) (a0 : Array Value) (hw : ∀ d ∈ tables_1, d.before a0 Z = true) (ws : List Jvm.Cond) (u0 : Addr) (u2 : Addr) (kA : ClassId) (c0 : Int32) (c1 : Int32) (c2 : Int32) (kB : ClassId) (d0 : Int32) (d1 : Int32) (d2 : Int32) (h0 : Heap) (n0 : Nat) (Z0 : n0 ≤ h0.size) (P_V_u0 : Arv Z h0 u0 kA .char (3 : Int32) [(.int c0), (.int c1), (.int c2)] (.int (0 : Int32))) (P_V_u2 : Arv Z h0 u2 kB .byte (3 : Int32) [(.int d0), (.int d1), (.int d2)] (.int (0 : Int32))) (neA : u0 ≠ u2) (hp0 : ¬ ((255 : Int32) < c0)) (hp1 : (255 : Int32) < c1) (g_u2 : n0 ≤ u2) :
    MetFree l own_y5 (head1 (Jvm.Cond.code own_y5 jdk_52_method_21_code 7 (some .int) :: ws) ({ frames := 0, cells := 0, slots := 0, locals := 0 } : Room)) (fun a U => a = #[(.ref u0), (.int (0 : Int32)), (.ref u2), (.int (0 : Int32)), (.int (3 : Int32))] ∧ Z.Warmed39 U.vm ∧ U.heap = h0) (fun _ _ _ _ _ => True) (fun _ U o U' => ∃ v L, o = .returned v ∧ Q_rmC5_3_1 Z u0 u2 kA c0 c1 c2 kB d0 d1 d2 h0 n0 v U'.heap L ∧ FrameEnd U o U' L ({ frames := 0, cells := 0, slots := 0, locals := 0 } : Room).cells ({ frames := 0, cells := 0, slots := 0, locals := 0 } : Room).slots) := by
  refine MetFree.of_bodySF (plainFor_of_name pn_6) hisR ?_
  intro p e s m args below meth c s₁ Bd hml0 hP hK
  obtain ⟨rfl, hZ, hh⟩ := hP
  have hx := Bd.exec
  have hby := Bd.bytes
  have hml : c.maxLocals = 7 := hml0
  have hown : s.vm.findClass "java/lang/StringUTF16" = some m.cls := findClass_of_methodNamed Bd.named
  have hnm := (name_of_methodNamed Bd.named Bd.method).1
  have X0 : Stand p l e ({ frames := 0, cells := 0, slots := 0, locals := 0 } : Room) s m #[(.ref u0), (.int (0 : Int32)), (.ref u2), (.int (0 : Int32)), (.int (3 : Int32))] below meth c s₁ [] 0 0 := Stand.of_body Bd
  have e0 : s₁.heap = h0 := by rw [← hh, Bd.state]; rfl
  have N0 := Fr.nil n0
  have pre0 : ∀ t, Steps p.tables e below (s₁.setTop (mkF m 0 #[rv u0, iv (0 : Int32), rv u2, iv (0 : Int32), iv (3 : Int32), .unset, .unset] [])) t → Steps p.tables e below (s₁.setTop (entryFrame m #[(.ref u0), (.int (0 : Int32)), (.ref u2), (.int (0 : Int32)), (.int (3 : Int32))] 7)) t := fun t k => castTop (ef_rmC5_3_1 m u0 (0 : Int32) u2 (0 : Int32) (3 : Int32)) k
  obtain ⟨cl1, Ar1, qq1, S1, N1_, H1, G1⟩ := id P_V_u0
  have hin1 : ¬ ((0 : Int32) < 0 ∨ cl1.slots.size ≤ ((0 : Int32)).toNatClampNeg) := inb_of S1 ⟨by decide, by decide⟩
  have hat1 : cl1.slots[((0 : Int32)).toNatClampNeg]? = some (.int c0) := H1.at hin1 rfl
  obtain ⟨cl2, Ar2, qq2, S2, N2_, H2, G2⟩ := id P_V_u2
  have hin2 : ¬ ((0 : Int32) < 0 ∨ cl2.slots.size ≤ ((0 : Int32)).toNatClampNeg) := inb_of S2 ⟨by decide, by decide⟩
  obtain ⟨T3, h3, X3, e3, W3, st3⟩ := stB X0 hx hZ e0 Ar2 (j := (0 : Int32)) hin2 (g := (mkF m 31 #[rv u0, iv (0 : Int32), rv u2, iv (0 : Int32), iv (3 : Int32), iv (0 : Int32), iv c0] [(.int (c0.toInt8.toInt32)), (.int (0 : Int32)), (.ref u2)])) rfl rfl (hb hby d6_31)
  have V3 : Arv Z h3 u2 kB .byte (3 : Int32) [(.int ((c0.toInt8.toInt32).toInt8.toInt32)), (.int d1), (.int d2)] (.int (0 : Int32)) := Arv.set Ar2 qq2 S2 N2_ H2 G2 (fits_nar_byte _) W3 0 rfl (Nat.le_of_ble_eq_true rfl)
  have N4 := Fr.snoc X3 N0 g_u2
  have K5 : Keep h0 h3 [u2] := (Keep.refl h0 [u2]).wr W3 (Or.inl (List.mem_of_getElem? (i := 0) rfl))
  have f6 : Arv Z h3 u0 kA .char (3 : Int32) [(.int c0), (.int c1), (.int c2)] (.int (0 : Int32)) := (P_V_u0.other W3 neA)
  obtain ⟨cl7, Ar7, qq7, S7, N7_, H7, G7⟩ := id f6
  have hin7 : ¬ ((1 : Int32) < 0 ∨ cl7.slots.size ≤ ((1 : Int32)).toNatClampNeg) := inb_of S7 ⟨by decide, by decide⟩
  have hat7 : cl7.slots[((1 : Int32)).toNatClampNeg]? = some (.int c1) := H7.at hin7 rfl
  obtain ⟨fs, hr, hrun, hended, hW, hsame⟩ := X3.leave (v := some (.int (1 : Int32))) (fun h => by rw [Bd.returns] at h; cases h)
  refine ⟨_, _, pre0 _ ?_, hrun, hended, _, _, rfl, ?_, ⟨_, rfl⟩, hW, hsame.mono (by decide) (by decide)⟩
  · refine XS.iconst X0.here hx rfl (hb hby d6_0) ?_
    refine XS.istore X0.here hx rfl (hb hby d6_1) rfl (l' := #[rv u0, iv (0 : Int32), rv u2, iv (0 : Int32), iv (3 : Int32), iv (0 : Int32), .unset]) rfl ?_
    refine XS.iload X0.here hx rfl (hb hby d6_3) rfl ?_
    refine XS.iload X0.here hx rfl (hb hby d6_5) rfl ?_
    refine XS.icmpNo X0.here hx rfl (hb hby d6_7) rfl (tlt (by decide : (0 : Int32) < (3 : Int32))).2.1 ?_
    refine XS.aloadN X0.here hx rfl (hb hby d6_10) rfl rfl ?_
    refine XS.iloadN X0.here hx rfl (hb hby d6_11) rfl ?_
    refine X0.caload hx (j := (0 : Int32)) (v := (.int c0)) (by rw [e0]; exact Ar1.1) (State.isArrayOf_alike hZ.alike Ar1.2.1) Ar1.2.2 hin1 hat1 (g := (mkF m 12 #[rv u0, iv (0 : Int32), rv u2, iv (0 : Int32), iv (3 : Int32), iv (0 : Int32), .unset] [(.int (0 : Int32)), (.ref u0)])) rfl rfl (hb hby d6_12) _ ?_
    refine XS.istore X0.here hx rfl (hb hby d6_13) rfl (l' := #[rv u0, iv (0 : Int32), rv u2, iv (0 : Int32), iv (3 : Int32), iv (0 : Int32), iv c0]) rfl ?_
    refine XS.iload X0.here hx rfl (hb hby d6_15) rfl ?_
    refine XS.sipush X0.here hx rfl (hb hby d6_17) ?_
    refine XS.icmpYes X0.here hx rfl (pc0 := 20) (pc' := 26) rfl (hb hby d6_20) rfl (flt hp0).2.2.2 (by decide) (by decide) ?_
    refine XS.aloadN X0.here hx rfl (hb hby d6_26) rfl rfl ?_
    refine XS.iloadN X0.here hx rfl (hb hby d6_27) rfl ?_
    refine XS.iload X0.here hx rfl (hb hby d6_28) rfl ?_
    refine XS.i2b X0.here hx rfl (hb hby d6_30) rfl ?_
    refine st3 _ ?_
    refine XS.iinc X3.here hx rfl (hb hby d6_32) rfl (l' := #[rv u0, iv (1 : Int32), rv u2, iv (0 : Int32), iv (3 : Int32), iv (0 : Int32), iv c0]) rfl ?_
    refine XS.iinc X3.here hx rfl (hb hby d6_35) rfl (l' := #[rv u0, iv (1 : Int32), rv u2, iv (1 : Int32), iv (3 : Int32), iv (0 : Int32), iv c0]) rfl ?_
    refine XS.iinc X3.here hx rfl (hb hby d6_38) rfl (l' := #[rv u0, iv (1 : Int32), rv u2, iv (1 : Int32), iv (3 : Int32), iv (1 : Int32), iv c0]) rfl ?_
    refine XS.goto X3.here hx rfl (pc0 := 41) (pc' := 3) rfl (hb hby d6_41) (by decide) (by decide) ?_
    refine XS.iload X3.here hx rfl (hb hby d6_3) rfl ?_
    refine XS.iload X3.here hx rfl (hb hby d6_5) rfl ?_
    show Steps _ _ _ (T3.setTop (mkF m 7 #[rv u0, iv (1 : Int32), rv u2, iv (1 : Int32), iv (3 : Int32), iv (1 : Int32), iv c0] [(.int (3 : Int32)), (.int (1 : Int32))])) _
    refine XS.icmpNo X3.here hx rfl (hb hby d6_7) rfl (tlt (by decide : (1 : Int32) < (3 : Int32))).2.1 ?_
    refine XS.aloadN X3.here hx rfl (hb hby d6_10) rfl rfl ?_
    refine XS.iloadN X3.here hx rfl (hb hby d6_11) rfl ?_
    refine X3.caload hx (j := (1 : Int32)) (v := (.int c1)) (by rw [e3]; exact Ar7.1) (State.isArrayOf_alike hZ.alike Ar7.2.1) Ar7.2.2 hin7 hat7 (g := (mkF m 12 #[rv u0, iv (1 : Int32), rv u2, iv (1 : Int32), iv (3 : Int32), iv (1 : Int32), iv c0] [(.int (1 : Int32)), (.ref u0)])) rfl rfl (hb hby d6_12) _ ?_
    refine XS.istore X3.here hx rfl (hb hby d6_13) rfl (l' := #[rv u0, iv (1 : Int32), rv u2, iv (1 : Int32), iv (3 : Int32), iv (1 : Int32), iv c1]) rfl ?_
    refine XS.iload X3.here hx rfl (hb hby d6_15) rfl ?_
    refine XS.sipush X3.here hx rfl (hb hby d6_17) ?_
    refine XS.icmpNo X3.here hx rfl (hb hby d6_20) rfl (tlt hp1).2.2.2 ?_
    refine XS.iload X3.here hx rfl (hb hby d6_23) rfl ?_
    show Steps _ _ _ (T3.setTop (mkF m 25 #[rv u0, iv (1 : Int32), rv u2, iv (1 : Int32), iv (3 : Int32), iv (1 : Int32), iv c1] [(.int (1 : Int32))])) _
    exact retI X3 hx Bd.returns (hb hby d6_25) hr
  · show Q_rmC5_3_1 Z u0 u2 kA c0 c1 c2 kB d0 d1 d2 h0 n0 _ T3.heap _
    rw [e3]
    exact ⟨rfl, N4, K5, V3⟩

theorem ef_rmC5_3_2 (m : MethodId) (x0 : Addr) (x1 : Int32) (x2 : Addr) (x3 : Int32) (x4 : Int32) : entryFrame m #[(.ref x0), (.int x1), (.ref x2), (.int x3), (.int x4)] 7 = mkF m 0 #[rv x0, iv x1, rv x2, iv x3, iv x4, .unset, .unset] [] := by first | (simp [entryFrame, mkF, argsToLocals, Value.category]; done) | rfl
def Q_rmC5_3_2 (Z : State) (u0 : Addr) (u2 : Addr) (kA : ClassId) (c0 : Int32) (c1 : Int32) (c2 : Int32) (kB : ClassId) (d0 : Int32) (d1 : Int32) (d2 : Int32) (h0 : Heap) (n0 : Nat) (v : Option Value) (h : Heap) (L : List Loc) : Prop := (v = (some (.int (2 : Int32))) ∧ Fr n0 L ∧ Keep h0 h [u2] ∧ Arv Z h u2 kB .byte (3 : Int32) [(.int ((c0.toInt8.toInt32).toInt8.toInt32)), (.int ((c1.toInt8.toInt32).toInt8.toInt32)), (.int d2)] (.int (0 : Int32)))
set_option maxRecDepth 65536 in
set_option maxHeartbeats 40000000 in
theorem rmC5_3_2 (l : Launch) (Z : State) (a0 : Array Value) (hw : ∀ d ∈ tables_1, d.before a0 Z = true) (ws : List Jvm.Cond) (u0 : Addr) (u2 : Addr) (kA : ClassId) (c0 : Int32) (c1 : Int32) (c2 : Int32) (kB : ClassId) (d0 : Int32) (d1 : Int32) (d2 : Int32) (h0 : Heap) (n0 : Nat) (Z0 : n0 ≤ h0.size) (P_V_u0 : Arv Z h0 u0 kA .char (3 : Int32) [(.int c0), (.int c1), (.int c2)] (.int (0 : Int32))) (P_V_u2 : Arv Z h0 u2 kB .byte (3 : Int32) [(.int d0), (.int d1), (.int d2)] (.int (0 : Int32))) (neA : u0 ≠ u2) (hp0 : ¬ ((255 : Int32) < c0)) (hp1 : ¬ ((255 : Int32) < c1)) (hp2 : (255 : Int32) < c2) (g_u2 : n0 ≤ u2) :
    MetFree l own_y5 (head1 (Jvm.Cond.code own_y5 jdk_52_method_21_code 7 (some .int) :: ws) ({ frames := 0, cells := 0, slots := 0, locals := 0 } : Room)) (fun a U => a = #[(.ref u0), (.int (0 : Int32)), (.ref u2), (.int (0 : Int32)), (.int (3 : Int32))] ∧ Z.Warmed39 U.vm ∧ U.heap = h0) (fun _ _ _ _ _ => True) (fun _ U o U' => ∃ v L, o = .returned v ∧ Q_rmC5_3_2 Z u0 u2 kA c0 c1 c2 kB d0 d1 d2 h0 n0 v U'.heap L ∧ FrameEnd U o U' L ({ frames := 0, cells := 0, slots := 0, locals := 0 } : Room).cells ({ frames := 0, cells := 0, slots := 0, locals := 0 } : Room).slots) := by
  refine MetFree.of_bodySF (plainFor_of_name pn_6) hisR ?_
  intro p e s m args below meth c s₁ Bd hml0 hP hK
  obtain ⟨rfl, hZ, hh⟩ := hP
  have hx := Bd.exec
  have hby := Bd.bytes
  have hml : c.maxLocals = 7 := hml0
  have hown : s.vm.findClass "java/lang/StringUTF16" = some m.cls := findClass_of_methodNamed Bd.named
  have hnm := (name_of_methodNamed Bd.named Bd.method).1
  have X0 : Stand p l e ({ frames := 0, cells := 0, slots := 0, locals := 0 } : Room) s m #[(.ref u0), (.int (0 : Int32)), (.ref u2), (.int (0 : Int32)), (.int (3 : Int32))] below meth c s₁ [] 0 0 := Stand.of_body Bd
  have e0 : s₁.heap = h0 := by rw [← hh, Bd.state]; rfl
  have N0 := Fr.nil n0
  have pre0 : ∀ t, Steps p.tables e below (s₁.setTop (mkF m 0 #[rv u0, iv (0 : Int32), rv u2, iv (0 : Int32), iv (3 : Int32), .unset, .unset] [])) t → Steps p.tables e below (s₁.setTop (entryFrame m #[(.ref u0), (.int (0 : Int32)), (.ref u2), (.int (0 : Int32)), (.int (3 : Int32))] 7)) t := fun t k => castTop (ef_rmC5_3_2 m u0 (0 : Int32) u2 (0 : Int32) (3 : Int32)) k
  obtain ⟨cl1, Ar1, qq1, S1, N1_, H1, G1⟩ := id P_V_u0
  have hin1 : ¬ ((0 : Int32) < 0 ∨ cl1.slots.size ≤ ((0 : Int32)).toNatClampNeg) := inb_of S1 ⟨by decide, by decide⟩
  have hat1 : cl1.slots[((0 : Int32)).toNatClampNeg]? = some (.int c0) := H1.at hin1 rfl
  obtain ⟨cl2, Ar2, qq2, S2, N2_, H2, G2⟩ := id P_V_u2
  have hin2 : ¬ ((0 : Int32) < 0 ∨ cl2.slots.size ≤ ((0 : Int32)).toNatClampNeg) := inb_of S2 ⟨by decide, by decide⟩
  obtain ⟨T3, h3, X3, e3, W3, st3⟩ := stB X0 hx hZ e0 Ar2 (j := (0 : Int32)) hin2 (g := (mkF m 31 #[rv u0, iv (0 : Int32), rv u2, iv (0 : Int32), iv (3 : Int32), iv (0 : Int32), iv c0] [(.int (c0.toInt8.toInt32)), (.int (0 : Int32)), (.ref u2)])) rfl rfl (hb hby d6_31)
  have V3 : Arv Z h3 u2 kB .byte (3 : Int32) [(.int ((c0.toInt8.toInt32).toInt8.toInt32)), (.int d1), (.int d2)] (.int (0 : Int32)) := Arv.set Ar2 qq2 S2 N2_ H2 G2 (fits_nar_byte _) W3 0 rfl (Nat.le_of_ble_eq_true rfl)
  have N4 := Fr.snoc X3 N0 g_u2
  have K5 : Keep h0 h3 [u2] := (Keep.refl h0 [u2]).wr W3 (Or.inl (List.mem_of_getElem? (i := 0) rfl))
  have f6 : Arv Z h3 u0 kA .char (3 : Int32) [(.int c0), (.int c1), (.int c2)] (.int (0 : Int32)) := (P_V_u0.other W3 neA)
  obtain ⟨cl7, Ar7, qq7, S7, N7_, H7, G7⟩ := id f6
  have hin7 : ¬ ((1 : Int32) < 0 ∨ cl7.slots.size ≤ ((1 : Int32)).toNatClampNeg) := inb_of S7 ⟨by decide, by decide⟩
  have hat7 : cl7.slots[((1 : Int32)).toNatClampNeg]? = some (.int c1) := H7.at hin7 rfl
  obtain ⟨cl8, Ar8, qq8, S8, N8_, H8, G8⟩ := id V3
  have hin8 : ¬ ((1 : Int32) < 0 ∨ cl8.slots.size ≤ ((1 : Int32)).toNatClampNeg) := inb_of S8 ⟨by decide, by decide⟩
  obtain ⟨T9, h9, X9, e9, W9, st9⟩ := stB X3 hx hZ e3 Ar8 (j := (1 : Int32)) hin8 (g := (mkF m 31 #[rv u0, iv (1 : Int32), rv u2, iv (1 : Int32), iv (3 : Int32), iv (1 : Int32), iv c1] [(.int (c1.toInt8.toInt32)), (.int (1 : Int32)), (.ref u2)])) rfl rfl (hb hby d6_31)
  have V9 : Arv Z h9 u2 kB .byte (3 : Int32) [(.int ((c0.toInt8.toInt32).toInt8.toInt32)), (.int ((c1.toInt8.toInt32).toInt8.toInt32)), (.int d2)] (.int (0 : Int32)) := Arv.set Ar8 qq8 S8 N8_ H8 G8 (fits_nar_byte _) W9 1 rfl (Nat.le_of_ble_eq_true rfl)
  have N10 := Fr.snoc X9 N4 g_u2
  have K11 : Keep h0 h9 [u2] := K5.wr W9 (Or.inl (List.mem_of_getElem? (i := 0) rfl))
  have f12 : Arv Z h9 u0 kA .char (3 : Int32) [(.int c0), (.int c1), (.int c2)] (.int (0 : Int32)) := (f6.other W9 neA)
  obtain ⟨cl13, Ar13, qq13, S13, N13_, H13, G13⟩ := id f12
  have hin13 : ¬ ((2 : Int32) < 0 ∨ cl13.slots.size ≤ ((2 : Int32)).toNatClampNeg) := inb_of S13 ⟨by decide, by decide⟩
  have hat13 : cl13.slots[((2 : Int32)).toNatClampNeg]? = some (.int c2) := H13.at hin13 rfl
  obtain ⟨fs, hr, hrun, hended, hW, hsame⟩ := X9.leave (v := some (.int (2 : Int32))) (fun h => by rw [Bd.returns] at h; cases h)
  refine ⟨_, _, pre0 _ ?_, hrun, hended, _, _, rfl, ?_, ⟨_, rfl⟩, hW, hsame.mono (by decide) (by decide)⟩
  · refine XS.iconst X0.here hx rfl (hb hby d6_0) ?_
    refine XS.istore X0.here hx rfl (hb hby d6_1) rfl (l' := #[rv u0, iv (0 : Int32), rv u2, iv (0 : Int32), iv (3 : Int32), iv (0 : Int32), .unset]) rfl ?_
    refine XS.iload X0.here hx rfl (hb hby d6_3) rfl ?_
    refine XS.iload X0.here hx rfl (hb hby d6_5) rfl ?_
    refine XS.icmpNo X0.here hx rfl (hb hby d6_7) rfl (tlt (by decide : (0 : Int32) < (3 : Int32))).2.1 ?_
    refine XS.aloadN X0.here hx rfl (hb hby d6_10) rfl rfl ?_
    refine XS.iloadN X0.here hx rfl (hb hby d6_11) rfl ?_
    refine X0.caload hx (j := (0 : Int32)) (v := (.int c0)) (by rw [e0]; exact Ar1.1) (State.isArrayOf_alike hZ.alike Ar1.2.1) Ar1.2.2 hin1 hat1 (g := (mkF m 12 #[rv u0, iv (0 : Int32), rv u2, iv (0 : Int32), iv (3 : Int32), iv (0 : Int32), .unset] [(.int (0 : Int32)), (.ref u0)])) rfl rfl (hb hby d6_12) _ ?_
    refine XS.istore X0.here hx rfl (hb hby d6_13) rfl (l' := #[rv u0, iv (0 : Int32), rv u2, iv (0 : Int32), iv (3 : Int32), iv (0 : Int32), iv c0]) rfl ?_
    refine XS.iload X0.here hx rfl (hb hby d6_15) rfl ?_
    refine XS.sipush X0.here hx rfl (hb hby d6_17) ?_
    refine XS.icmpYes X0.here hx rfl (pc0 := 20) (pc' := 26) rfl (hb hby d6_20) rfl (flt hp0).2.2.2 (by decide) (by decide) ?_
    refine XS.aloadN X0.here hx rfl (hb hby d6_26) rfl rfl ?_
    refine XS.iloadN X0.here hx rfl (hb hby d6_27) rfl ?_
    refine XS.iload X0.here hx rfl (hb hby d6_28) rfl ?_
    refine XS.i2b X0.here hx rfl (hb hby d6_30) rfl ?_
    refine st3 _ ?_
    refine XS.iinc X3.here hx rfl (hb hby d6_32) rfl (l' := #[rv u0, iv (1 : Int32), rv u2, iv (0 : Int32), iv (3 : Int32), iv (0 : Int32), iv c0]) rfl ?_
    refine XS.iinc X3.here hx rfl (hb hby d6_35) rfl (l' := #[rv u0, iv (1 : Int32), rv u2, iv (1 : Int32), iv (3 : Int32), iv (0 : Int32), iv c0]) rfl ?_
    refine XS.iinc X3.here hx rfl (hb hby d6_38) rfl (l' := #[rv u0, iv (1 : Int32), rv u2, iv (1 : Int32), iv (3 : Int32), iv (1 : Int32), iv c0]) rfl ?_
    refine XS.goto X3.here hx rfl (pc0 := 41) (pc' := 3) rfl (hb hby d6_41) (by decide) (by decide) ?_
    refine XS.iload X3.here hx rfl (hb hby d6_3) rfl ?_
    refine XS.iload X3.here hx rfl (hb hby d6_5) rfl ?_
    show Steps _ _ _ (T3.setTop (mkF m 7 #[rv u0, iv (1 : Int32), rv u2, iv (1 : Int32), iv (3 : Int32), iv (1 : Int32), iv c0] [(.int (3 : Int32)), (.int (1 : Int32))])) _
    refine XS.icmpNo X3.here hx rfl (hb hby d6_7) rfl (tlt (by decide : (1 : Int32) < (3 : Int32))).2.1 ?_
    refine XS.aloadN X3.here hx rfl (hb hby d6_10) rfl rfl ?_
    refine XS.iloadN X3.here hx rfl (hb hby d6_11) rfl ?_
    refine X3.caload hx (j := (1 : Int32)) (v := (.int c1)) (by rw [e3]; exact Ar7.1) (State.isArrayOf_alike hZ.alike Ar7.2.1) Ar7.2.2 hin7 hat7 (g := (mkF m 12 #[rv u0, iv (1 : Int32), rv u2, iv (1 : Int32), iv (3 : Int32), iv (1 : Int32), iv c0] [(.int (1 : Int32)), (.ref u0)])) rfl rfl (hb hby d6_12) _ ?_
    refine XS.istore X3.here hx rfl (hb hby d6_13) rfl (l' := #[rv u0, iv (1 : Int32), rv u2, iv (1 : Int32), iv (3 : Int32), iv (1 : Int32), iv c1]) rfl ?_
    refine XS.iload X3.here hx rfl (hb hby d6_15) rfl ?_
    refine XS.sipush X3.here hx rfl (hb hby d6_17) ?_
    refine XS.icmpYes X3.here hx rfl (pc0 := 20) (pc' := 26) rfl (hb hby d6_20) rfl (flt hp1).2.2.2 (by decide) (by decide) ?_
    refine XS.aloadN X3.here hx rfl (hb hby d6_26) rfl rfl ?_
    refine XS.iloadN X3.here hx rfl (hb hby d6_27) rfl ?_
    refine XS.iload X3.here hx rfl (hb hby d6_28) rfl ?_
    refine XS.i2b X3.here hx rfl (hb hby d6_30) rfl ?_
    refine st9 _ ?_
    refine XS.iinc X9.here hx rfl (hb hby d6_32) rfl (l' := #[rv u0, iv (2 : Int32), rv u2, iv (1 : Int32), iv (3 : Int32), iv (1 : Int32), iv c1]) rfl ?_
    refine XS.iinc X9.here hx rfl (hb hby d6_35) rfl (l' := #[rv u0, iv (2 : Int32), rv u2, iv (2 : Int32), iv (3 : Int32), iv (1 : Int32), iv c1]) rfl ?_
    refine XS.iinc X9.here hx rfl (hb hby d6_38) rfl (l' := #[rv u0, iv (2 : Int32), rv u2, iv (2 : Int32), iv (3 : Int32), iv (2 : Int32), iv c1]) rfl ?_
    refine XS.goto X9.here hx rfl (pc0 := 41) (pc' := 3) rfl (hb hby d6_41) (by decide) (by decide) ?_
    refine XS.iload X9.here hx rfl (hb hby d6_3) rfl ?_
    refine XS.iload X9.here hx rfl (hb hby d6_5) rfl ?_
    refine XS.icmpNo X9.here hx rfl (hb hby d6_7) rfl (tlt (by decide : (2 : Int32) < (3 : Int32))).2.1 ?_
    refine XS.aloadN X9.here hx rfl (hb hby d6_10) rfl rfl ?_
    refine XS.iloadN X9.here hx rfl (hb hby d6_11) rfl ?_
    refine X9.caload hx (j := (2 : Int32)) (v := (.int c2)) (by rw [e9]; exact Ar13.1) (State.isArrayOf_alike hZ.alike Ar13.2.1) Ar13.2.2 hin13 hat13 (g := (mkF m 12 #[rv u0, iv (2 : Int32), rv u2, iv (2 : Int32), iv (3 : Int32), iv (2 : Int32), iv c1] [(.int (2 : Int32)), (.ref u0)])) rfl rfl (hb hby d6_12) _ ?_
    refine XS.istore X9.here hx rfl (hb hby d6_13) rfl (l' := #[rv u0, iv (2 : Int32), rv u2, iv (2 : Int32), iv (3 : Int32), iv (2 : Int32), iv c2]) rfl ?_
    show Steps _ _ _ (T9.setTop (mkF m 15 #[rv u0, iv (2 : Int32), rv u2, iv (2 : Int32), iv (3 : Int32), iv (2 : Int32), iv c2] [])) _
    refine XS.iload X9.here hx rfl (hb hby d6_15) rfl ?_
    refine XS.sipush X9.here hx rfl (hb hby d6_17) ?_
    refine XS.icmpNo X9.here hx rfl (hb hby d6_20) rfl (tlt hp2).2.2.2 ?_
    refine XS.iload X9.here hx rfl (hb hby d6_23) rfl ?_
    show Steps _ _ _ (T9.setTop (mkF m 25 #[rv u0, iv (2 : Int32), rv u2, iv (2 : Int32), iv (3 : Int32), iv (2 : Int32), iv c2] [(.int (2 : Int32))])) _
    exact retI X9 hx Bd.returns (hb hby d6_25) hr
  · show Q_rmC5_3_2 Z u0 u2 kA c0 c1 c2 kB d0 d1 d2 h0 n0 _ T9.heap _
    rw [e9]
    exact ⟨rfl, N10, K11, V9⟩

theorem ef_rmC5_3_3 (m : MethodId) (x0 : Addr) (x1 : Int32) (x2 : Addr) (x3 : Int32) (x4 : Int32) : entryFrame m #[(.ref x0), (.int x1), (.ref x2), (.int x3), (.int x4)] 7 = mkF m 0 #[rv x0, iv x1, rv x2, iv x3, iv x4, .unset, .unset] [] := by first | (simp [entryFrame, mkF, argsToLocals, Value.category]; done) | rfl
def Q_rmC5_3_3 (Z : State) (u0 : Addr) (u2 : Addr) (kA : ClassId) (c0 : Int32) (c1 : Int32) (c2 : Int32) (kB : ClassId) (d0 : Int32) (d1 : Int32) (d2 : Int32) (h0 : Heap) (n0 : Nat) (v : Option Value) (h : Heap) (L : List Loc) : Prop := (v = (some (.int (3 : Int32))) ∧ Fr n0 L ∧ Keep h0 h [u2] ∧ Arv Z h u2 kB .byte (3 : Int32) [(.int ((c0.toInt8.toInt32).toInt8.toInt32)), (.int ((c1.toInt8.toInt32).toInt8.toInt32)), (.int ((c2.toInt8.toInt32).toInt8.toInt32))] (.int (0 : Int32)))
set_option maxRecDepth 65536 in
set_option maxHeartbeats 40000000 in
theorem rmC5_3_3 (l : Launch) (Z : State) (a0 : Array Value) (hw : ∀ d ∈ tables_1, d.before a0 Z = true) (ws : List Jvm.Cond) (u0 : Addr) (u2 : Addr) (kA : ClassId) (c0 : Int32) (c1 : Int32) (c2 : Int32) (kB : ClassId) (d0 : Int32) (d1 : Int32) (d2 : Int32) (h0 : Heap) (n0 : Nat) (Z0 : n0 ≤ h0.size) (P_V_u0 : Arv Z h0 u0 kA .char (3 : Int32) [(.int c0), (.int c1), (.int c2)] (.int (0 : Int32))) (P_V_u2 : Arv Z h0 u2 kB .byte (3 : Int32) [(.int d0), (.int d1), (.int d2)] (.int (0 : Int32))) (neA : u0 ≠ u2) (hp0 : ¬ ((255 : Int32) < c0)) (hp1 : ¬ ((255 : Int32) < c1)) (hp2 : ¬ ((255 : Int32) < c2)) (g_u2 : n0 ≤ u2) :
    MetFree l own_y5 (head1 (Jvm.Cond.code own_y5 jdk_52_method_21_code 7 (some .int) :: ws) ({ frames := 0, cells := 0, slots := 0, locals := 0 } : Room)) (fun a U => a = #[(.ref u0), (.int (0 : Int32)), (.ref u2), (.int (0 : Int32)), (.int (3 : Int32))] ∧ Z.Warmed39 U.vm ∧ U.heap = h0) (fun _ _ _ _ _ => True) (fun _ U o U' => ∃ v L, o = .returned v ∧ Q_rmC5_3_3 Z u0 u2 kA c0 c1 c2 kB d0 d1 d2 h0 n0 v U'.heap L ∧ FrameEnd U o U' L ({ frames := 0, cells := 0, slots := 0, locals := 0 } : Room).cells ({ frames := 0, cells := 0, slots := 0, locals := 0 } : Room).slots) := by
  refine MetFree.of_bodySF (plainFor_of_name pn_6) hisR ?_
  intro p e s m args below meth c s₁ Bd hml0 hP hK
  obtain ⟨rfl, hZ, hh⟩ := hP
  have hx := Bd.exec
  have hby := Bd.bytes
  have hml : c.maxLocals = 7 := hml0
  have hown : s.vm.findClass "java/lang/StringUTF16" = some m.cls := findClass_of_methodNamed Bd.named
  have hnm := (name_of_methodNamed Bd.named Bd.method).1
  have X0 : Stand p l e ({ frames := 0, cells := 0, slots := 0, locals := 0 } : Room) s m #[(.ref u0), (.int (0 : Int32)), (.ref u2), (.int (0 : Int32)), (.int (3 : Int32))] below meth c s₁ [] 0 0 := Stand.of_body Bd
  have e0 : s₁.heap = h0 := by rw [← hh, Bd.state]; rfl
  have N0 := Fr.nil n0
  have pre0 : ∀ t, Steps p.tables e below (s₁.setTop (mkF m 0 #[rv u0, iv (0 : Int32), rv u2, iv (0 : Int32), iv (3 : Int32), .unset, .unset] [])) t → Steps p.tables e below (s₁.setTop (entryFrame m #[(.ref u0), (.int (0 : Int32)), (.ref u2), (.int (0 : Int32)), (.int (3 : Int32))] 7)) t := fun t k => castTop (ef_rmC5_3_3 m u0 (0 : Int32) u2 (0 : Int32) (3 : Int32)) k
  obtain ⟨cl1, Ar1, qq1, S1, N1_, H1, G1⟩ := id P_V_u0
  have hin1 : ¬ ((0 : Int32) < 0 ∨ cl1.slots.size ≤ ((0 : Int32)).toNatClampNeg) := inb_of S1 ⟨by decide, by decide⟩
  have hat1 : cl1.slots[((0 : Int32)).toNatClampNeg]? = some (.int c0) := H1.at hin1 rfl
  obtain ⟨cl2, Ar2, qq2, S2, N2_, H2, G2⟩ := id P_V_u2
  have hin2 : ¬ ((0 : Int32) < 0 ∨ cl2.slots.size ≤ ((0 : Int32)).toNatClampNeg) := inb_of S2 ⟨by decide, by decide⟩
  obtain ⟨T3, h3, X3, e3, W3, st3⟩ := stB X0 hx hZ e0 Ar2 (j := (0 : Int32)) hin2 (g := (mkF m 31 #[rv u0, iv (0 : Int32), rv u2, iv (0 : Int32), iv (3 : Int32), iv (0 : Int32), iv c0] [(.int (c0.toInt8.toInt32)), (.int (0 : Int32)), (.ref u2)])) rfl rfl (hb hby d6_31)
  have V3 : Arv Z h3 u2 kB .byte (3 : Int32) [(.int ((c0.toInt8.toInt32).toInt8.toInt32)), (.int d1), (.int d2)] (.int (0 : Int32)) := Arv.set Ar2 qq2 S2 N2_ H2 G2 (fits_nar_byte _) W3 0 rfl (Nat.le_of_ble_eq_true rfl)
  have N4 := Fr.snoc X3 N0 g_u2
  have K5 : Keep h0 h3 [u2] := (Keep.refl h0 [u2]).wr W3 (Or.inl (List.mem_of_getElem? (i := 0) rfl))
  have f6 : Arv Z h3 u0 kA .char (3 : Int32) [(.int c0), (.int c1), (.int c2)] (.int (0 : Int32)) := (P_V_u0.other W3 neA)
  obtain ⟨cl7, Ar7, qq7, S7, N7_, H7, G7⟩ := id f6
  have hin7 : ¬ ((1 : Int32) < 0 ∨ cl7.slots.size ≤ ((1 : Int32)).toNatClampNeg) := inb_of S7 ⟨by decide, by decide⟩
  have hat7 : cl7.slots[((1 : Int32)).toNatClampNeg]? = some (.int c1) := H7.at hin7 rfl
  obtain ⟨cl8, Ar8, qq8, S8, N8_, H8, G8⟩ := id V3
  have hin8 : ¬ ((1 : Int32) < 0 ∨ cl8.slots.size ≤ ((1 : Int32)).toNatClampNeg) := inb_of S8 ⟨by decide, by decide⟩
  obtain ⟨T9, h9, X9, e9, W9, st9⟩ := stB X3 hx hZ e3 Ar8 (j := (1 : Int32)) hin8 (g := (mkF m 31 #[rv u0, iv (1 : Int32), rv u2, iv (1 : Int32), iv (3 : Int32), iv (1 : Int32), iv c1] [(.int (c1.toInt8.toInt32)), (.int (1 : Int32)), (.ref u2)])) rfl rfl (hb hby d6_31)
  have V9 : Arv Z h9 u2 kB .byte (3 : Int32) [(.int ((c0.toInt8.toInt32).toInt8.toInt32)), (.int ((c1.toInt8.toInt32).toInt8.toInt32)), (.int d2)] (.int (0 : Int32)) := Arv.set Ar8 qq8 S8 N8_ H8 G8 (fits_nar_byte _) W9 1 rfl (Nat.le_of_ble_eq_true rfl)
  have N10 := Fr.snoc X9 N4 g_u2
  have K11 : Keep h0 h9 [u2] := K5.wr W9 (Or.inl (List.mem_of_getElem? (i := 0) rfl))
  have f12 : Arv Z h9 u0 kA .char (3 : Int32) [(.int c0), (.int c1), (.int c2)] (.int (0 : Int32)) := (f6.other W9 neA)
  obtain ⟨cl13, Ar13, qq13, S13, N13_, H13, G13⟩ := id f12
  have hin13 : ¬ ((2 : Int32) < 0 ∨ cl13.slots.size ≤ ((2 : Int32)).toNatClampNeg) := inb_of S13 ⟨by decide, by decide⟩
  have hat13 : cl13.slots[((2 : Int32)).toNatClampNeg]? = some (.int c2) := H13.at hin13 rfl
  obtain ⟨cl14, Ar14, qq14, S14, N14_, H14, G14⟩ := id V9
  have hin14 : ¬ ((2 : Int32) < 0 ∨ cl14.slots.size ≤ ((2 : Int32)).toNatClampNeg) := inb_of S14 ⟨by decide, by decide⟩
  obtain ⟨T15, h15, X15, e15, W15, st15⟩ := stB X9 hx hZ e9 Ar14 (j := (2 : Int32)) hin14 (g := (mkF m 31 #[rv u0, iv (2 : Int32), rv u2, iv (2 : Int32), iv (3 : Int32), iv (2 : Int32), iv c2] [(.int (c2.toInt8.toInt32)), (.int (2 : Int32)), (.ref u2)])) rfl rfl (hb hby d6_31)
  have V15 : Arv Z h15 u2 kB .byte (3 : Int32) [(.int ((c0.toInt8.toInt32).toInt8.toInt32)), (.int ((c1.toInt8.toInt32).toInt8.toInt32)), (.int ((c2.toInt8.toInt32).toInt8.toInt32))] (.int (0 : Int32)) := Arv.set Ar14 qq14 S14 N14_ H14 G14 (fits_nar_byte _) W15 2 rfl (Nat.le_of_ble_eq_true rfl)
  have N16 := Fr.snoc X15 N10 g_u2
  have K17 : Keep h0 h15 [u2] := K11.wr W15 (Or.inl (List.mem_of_getElem? (i := 0) rfl))
  obtain ⟨fs, hr, hrun, hended, hW, hsame⟩ := X15.leave (v := some (.int (3 : Int32))) (fun h => by rw [Bd.returns] at h; cases h)
  refine ⟨_, _, pre0 _ ?_, hrun, hended, _, _, rfl, ?_, ⟨_, rfl⟩, hW, hsame.mono (by decide) (by decide)⟩
  · refine XS.iconst X0.here hx rfl (hb hby d6_0) ?_
    refine XS.istore X0.here hx rfl (hb hby d6_1) rfl (l' := #[rv u0, iv (0 : Int32), rv u2, iv (0 : Int32), iv (3 : Int32), iv (0 : Int32), .unset]) rfl ?_
    refine XS.iload X0.here hx rfl (hb hby d6_3) rfl ?_
    refine XS.iload X0.here hx rfl (hb hby d6_5) rfl ?_
    refine XS.icmpNo X0.here hx rfl (hb hby d6_7) rfl (tlt (by decide : (0 : Int32) < (3 : Int32))).2.1 ?_
    refine XS.aloadN X0.here hx rfl (hb hby d6_10) rfl rfl ?_
    refine XS.iloadN X0.here hx rfl (hb hby d6_11) rfl ?_
    refine X0.caload hx (j := (0 : Int32)) (v := (.int c0)) (by rw [e0]; exact Ar1.1) (State.isArrayOf_alike hZ.alike Ar1.2.1) Ar1.2.2 hin1 hat1 (g := (mkF m 12 #[rv u0, iv (0 : Int32), rv u2, iv (0 : Int32), iv (3 : Int32), iv (0 : Int32), .unset] [(.int (0 : Int32)), (.ref u0)])) rfl rfl (hb hby d6_12) _ ?_
    refine XS.istore X0.here hx rfl (hb hby d6_13) rfl (l' := #[rv u0, iv (0 : Int32), rv u2, iv (0 : Int32), iv (3 : Int32), iv (0 : Int32), iv c0]) rfl ?_
    refine XS.iload X0.here hx rfl (hb hby d6_15) rfl ?_
    refine XS.sipush X0.here hx rfl (hb hby d6_17) ?_
    refine XS.icmpYes X0.here hx rfl (pc0 := 20) (pc' := 26) rfl (hb hby d6_20) rfl (flt hp0).2.2.2 (by decide) (by decide) ?_
    refine XS.aloadN X0.here hx rfl (hb hby d6_26) rfl rfl ?_
    refine XS.iloadN X0.here hx rfl (hb hby d6_27) rfl ?_
    refine XS.iload X0.here hx rfl (hb hby d6_28) rfl ?_
    refine XS.i2b X0.here hx rfl (hb hby d6_30) rfl ?_
    refine st3 _ ?_
    refine XS.iinc X3.here hx rfl (hb hby d6_32) rfl (l' := #[rv u0, iv (1 : Int32), rv u2, iv (0 : Int32), iv (3 : Int32), iv (0 : Int32), iv c0]) rfl ?_
    refine XS.iinc X3.here hx rfl (hb hby d6_35) rfl (l' := #[rv u0, iv (1 : Int32), rv u2, iv (1 : Int32), iv (3 : Int32), iv (0 : Int32), iv c0]) rfl ?_
    refine XS.iinc X3.here hx rfl (hb hby d6_38) rfl (l' := #[rv u0, iv (1 : Int32), rv u2, iv (1 : Int32), iv (3 : Int32), iv (1 : Int32), iv c0]) rfl ?_
    refine XS.goto X3.here hx rfl (pc0 := 41) (pc' := 3) rfl (hb hby d6_41) (by decide) (by decide) ?_
    refine XS.iload X3.here hx rfl (hb hby d6_3) rfl ?_
    refine XS.iload X3.here hx rfl (hb hby d6_5) rfl ?_
    show Steps _ _ _ (T3.setTop (mkF m 7 #[rv u0, iv (1 : Int32), rv u2, iv (1 : Int32), iv (3 : Int32), iv (1 : Int32), iv c0] [(.int (3 : Int32)), (.int (1 : Int32))])) _
    refine XS.icmpNo X3.here hx rfl (hb hby d6_7) rfl (tlt (by decide : (1 : Int32) < (3 : Int32))).2.1 ?_
    refine XS.aloadN X3.here hx rfl (hb hby d6_10) rfl rfl ?_
    refine XS.iloadN X3.here hx rfl (hb hby d6_11) rfl ?_
    refine X3.caload hx (j := (1 : Int32)) (v := (.int c1)) (by rw [e3]; exact Ar7.1) (State.isArrayOf_alike hZ.alike Ar7.2.1) Ar7.2.2 hin7 hat7 (g := (mkF m 12 #[rv u0, iv (1 : Int32), rv u2, iv (1 : Int32), iv (3 : Int32), iv (1 : Int32), iv c0] [(.int (1 : Int32)), (.ref u0)])) rfl rfl (hb hby d6_12) _ ?_
    refine XS.istore X3.here hx rfl (hb hby d6_13) rfl (l' := #[rv u0, iv (1 : Int32), rv u2, iv (1 : Int32), iv (3 : Int32), iv (1 : Int32), iv c1]) rfl ?_
    refine XS.iload X3.here hx rfl (hb hby d6_15) rfl ?_
    refine XS.sipush X3.here hx rfl (hb hby d6_17) ?_
    refine XS.icmpYes X3.here hx rfl (pc0 := 20) (pc' := 26) rfl (hb hby d6_20) rfl (flt hp1).2.2.2 (by decide) (by decide) ?_
    refine XS.aloadN X3.here hx rfl (hb hby d6_26) rfl rfl ?_
    refine XS.iloadN X3.here hx rfl (hb hby d6_27) rfl ?_
    refine XS.iload X3.here hx rfl (hb hby d6_28) rfl ?_
    refine XS.i2b X3.here hx rfl (hb hby d6_30) rfl ?_
    refine st9 _ ?_
    refine XS.iinc X9.here hx rfl (hb hby d6_32) rfl (l' := #[rv u0, iv (2 : Int32), rv u2, iv (1 : Int32), iv (3 : Int32), iv (1 : Int32), iv c1]) rfl ?_
    refine XS.iinc X9.here hx rfl (hb hby d6_35) rfl (l' := #[rv u0, iv (2 : Int32), rv u2, iv (2 : Int32), iv (3 : Int32), iv (1 : Int32), iv c1]) rfl ?_
    refine XS.iinc X9.here hx rfl (hb hby d6_38) rfl (l' := #[rv u0, iv (2 : Int32), rv u2, iv (2 : Int32), iv (3 : Int32), iv (2 : Int32), iv c1]) rfl ?_
    refine XS.goto X9.here hx rfl (pc0 := 41) (pc' := 3) rfl (hb hby d6_41) (by decide) (by decide) ?_
    refine XS.iload X9.here hx rfl (hb hby d6_3) rfl ?_
    refine XS.iload X9.here hx rfl (hb hby d6_5) rfl ?_
    refine XS.icmpNo X9.here hx rfl (hb hby d6_7) rfl (tlt (by decide : (2 : Int32) < (3 : Int32))).2.1 ?_
    refine XS.aloadN X9.here hx rfl (hb hby d6_10) rfl rfl ?_
    refine XS.iloadN X9.here hx rfl (hb hby d6_11) rfl ?_
    refine X9.caload hx (j := (2 : Int32)) (v := (.int c2)) (by rw [e9]; exact Ar13.1) (State.isArrayOf_alike hZ.alike Ar13.2.1) Ar13.2.2 hin13 hat13 (g := (mkF m 12 #[rv u0, iv (2 : Int32), rv u2, iv (2 : Int32), iv (3 : Int32), iv (2 : Int32), iv c1] [(.int (2 : Int32)), (.ref u0)])) rfl rfl (hb hby d6_12) _ ?_
    refine XS.istore X9.here hx rfl (hb hby d6_13) rfl (l' := #[rv u0, iv (2 : Int32), rv u2, iv (2 : Int32), iv (3 : Int32), iv (2 : Int32), iv c2]) rfl ?_
    show Steps _ _ _ (T9.setTop (mkF m 15 #[rv u0, iv (2 : Int32), rv u2, iv (2 : Int32), iv (3 : Int32), iv (2 : Int32), iv c2] [])) _
    refine XS.iload X9.here hx rfl (hb hby d6_15) rfl ?_
    refine XS.sipush X9.here hx rfl (hb hby d6_17) ?_
    refine XS.icmpYes X9.here hx rfl (pc0 := 20) (pc' := 26) rfl (hb hby d6_20) rfl (flt hp2).2.2.2 (by decide) (by decide) ?_
    refine XS.aloadN X9.here hx rfl (hb hby d6_26) rfl rfl ?_
    refine XS.iloadN X9.here hx rfl (hb hby d6_27) rfl ?_
    refine XS.iload X9.here hx rfl (hb hby d6_28) rfl ?_
    refine XS.i2b X9.here hx rfl (hb hby d6_30) rfl ?_
    refine st15 _ ?_
    refine XS.iinc X15.here hx rfl (hb hby d6_32) rfl (l' := #[rv u0, iv (3 : Int32), rv u2, iv (2 : Int32), iv (3 : Int32), iv (2 : Int32), iv c2]) rfl ?_
    refine XS.iinc X15.here hx rfl (hb hby d6_35) rfl (l' := #[rv u0, iv (3 : Int32), rv u2, iv (3 : Int32), iv (3 : Int32), iv (2 : Int32), iv c2]) rfl ?_
    refine XS.iinc X15.here hx rfl (hb hby d6_38) rfl (l' := #[rv u0, iv (3 : Int32), rv u2, iv (3 : Int32), iv (3 : Int32), iv (3 : Int32), iv c2]) rfl ?_
    refine XS.goto X15.here hx rfl (pc0 := 41) (pc' := 3) rfl (hb hby d6_41) (by decide) (by decide) ?_
    refine XS.iload X15.here hx rfl (hb hby d6_3) rfl ?_
    refine XS.iload X15.here hx rfl (hb hby d6_5) rfl ?_
    refine XS.icmpYes X15.here hx rfl (pc0 := 7) (pc' := 44) rfl (hb hby d6_7) rfl (flt (by decide : ¬ ((3 : Int32) < (3 : Int32)))).2.1 (by decide) (by decide) ?_
    refine XS.iload X15.here hx rfl (hb hby d6_44) rfl ?_
    show Steps _ _ _ (T15.setTop (mkF m 46 #[rv u0, iv (3 : Int32), rv u2, iv (3 : Int32), iv (3 : Int32), iv (3 : Int32), iv c2] [(.int (3 : Int32))])) _
    exact retI X15 hx Bd.returns (hb hby d6_46) hr
  · show Q_rmC5_3_3 Z u0 u2 kA c0 c1 c2 kB d0 d1 d2 h0 n0 _ T15.heap _
    rw [e15]
    exact ⟨rfl, N16, K17, V15⟩

theorem ef_rmC3_3 (m : MethodId) (x0 : Addr) (x1 : Int32) (x2 : Int32) : entryFrame m #[(.ref x0), (.int x1), (.int x2)] 6 = mkF m 0 #[rv x0, iv x1, iv x2, .unset, .unset, .unset] [] := by first | (simp [entryFrame, mkF, argsToLocals, Value.category]; done) | rfl
def Q_rmC3_3 (Z : State) (u0 : Addr) (kA : ClassId) (c0 : Int32) (c1 : Int32) (c2 : Int32) (h0 : Heap) (n0 : Nat) (v : Option Value) (h : Heap) (L : List Loc) : Prop := ∃ (t : Addr), ∃ (kt : ClassId), ∃ (z : Int32), ∃ (vs : List Value), (v = (some (.ref t)) ∧ Fr n0 L ∧ Keep h0 h [] ∧ h0.size ≤ t ∧ Arv Z h t kt .byte z vs (.int 0) ∧ (z = (3 : Int32) ∨ z = (6 : Int32)))
set_option maxRecDepth 65536 in
set_option maxHeartbeats 40000000 in
theorem rmC3_3 (l : Launch) (Z : State) (a0 : Array Value) (hw : ∀ d ∈ tables_1, d.before a0 Z = true) (ws : List Jvm.Cond) (u0 : Addr) (kA : ClassId) (c0 : Int32) (c1 : Int32) (c2 : Int32) (h0 : Heap) (n0 : Nat) (Z0 : n0 ≤ h0.size) (P_S_StringUTF16__assertionsDisabled : Sta Z h0 "java/lang/StringUTF16" "$assertionsDisabled" "Z" (.int (1 : Int32))) (P_S_StringUTF16_HI_BYTE_SHIFT : Sta Z h0 "java/lang/StringUTF16" "HI_BYTE_SHIFT" "I" (.int (0 : Int32))) (P_S_StringUTF16_LO_BYTE_SHIFT : Sta Z h0 "java/lang/StringUTF16" "LO_BYTE_SHIFT" "I" (.int (8 : Int32))) (P_V_u0 : Arv Z h0 u0 kA .char (3 : Int32) [(.int c0), (.int c1), (.int c2)] (.int (0 : Int32))) (hr0 : ¬ c0 < 0 ∧ ¬ (65535 : Int32) < c0) (hr1 : ¬ c1 < 0 ∧ ¬ (65535 : Int32) < c1) (hr2 : ¬ c2 < 0 ∧ ¬ (65535 : Int32) < c2) :
    MetFree l own_y6 (head1 (Jvm.Cond.code own_y6 jdk_52_method_16_code 6 (some (.array .byte)) :: ws) ({ frames := 3, cells := 2, slots := 9, locals := 40 } : Room)) (fun a U => a = #[(.ref u0), (.int (0 : Int32)), (.int (3 : Int32))] ∧ Z.Warmed39 U.vm ∧ U.heap = h0) (fun _ _ _ _ _ => True) (fun _ U o U' => ∃ v L, o = .returned v ∧ Q_rmC3_3 Z u0 kA c0 c1 c2 h0 n0 v U'.heap L ∧ FrameEnd U o U' L ({ frames := 3, cells := 2, slots := 9, locals := 40 } : Room).cells ({ frames := 3, cells := 2, slots := 9, locals := 40 } : Room).slots) := by
  refine MetFree.of_bodySF (plainFor_of_name pn_5) hisR ?_
  intro p e s m args below meth c s₁ Bd hml0 hP hK
  obtain ⟨rfl, hZ, hh⟩ := hP
  have hx := Bd.exec
  have hby := Bd.bytes
  have hml : c.maxLocals = 6 := hml0
  have hown : s.vm.findClass "java/lang/StringUTF16" = some m.cls := findClass_of_methodNamed Bd.named
  have hnm := (name_of_methodNamed Bd.named Bd.method).1
  have X0 : Stand p l e ({ frames := 3, cells := 2, slots := 9, locals := 40 } : Room) s m #[(.ref u0), (.int (0 : Int32)), (.int (3 : Int32))] below meth c s₁ [] 0 0 := Stand.of_body Bd
  have e0 : s₁.heap = h0 := by rw [← hh, Bd.state]; rfl
  have N0 := Fr.nil n0
  have pre0 : ∀ t, Steps p.tables e below (s₁.setTop (mkF m 0 #[rv u0, iv (0 : Int32), iv (3 : Int32), .unset, .unset, .unset] [])) t → Steps p.tables e below (s₁.setTop (entryFrame m #[(.ref u0), (.int (0 : Int32)), (.int (3 : Int32))] 6)) t := fun t k => castTop (ef_rmC3_3 m u0 (0 : Int32) (3 : Int32)) k
  obtain ⟨T1, h1, k1, X1, e1, E1, A1, st1⟩ := newP X0 hx hZ (own_g hw 25 rfl) e0 (g := (mkF m 1 #[rv u0, iv (0 : Int32), iv (3 : Int32), .unset, .unset, .unset] [(.int (3 : Int32))])) rfl (hb hby d5_1) rfl (by decide) (cap := 3) (by decide) (by decide) (by decide) (by decide)
  obtain ⟨b1, g1⟩ : ∃ z, z = h0.size := ⟨_, rfl⟩
  rw [← g1] at A1 st1
  have ne2 : u0 ≠ b1 := Nat.ne_of_lt (Nat.lt_of_lt_of_le P_V_u0.lt (Nat.le_of_eq g1.symm))
  have o1 : n0 ≤ b1 := Nat.le_trans Z0 (Nat.le_of_eq g1.symm)
  have z1 : h0.size ≤ b1 := Nat.le_trans (Keep.refl h0 []).1 (Nat.le_of_eq g1.symm)
  have K1 : Keep h0 h1 [] := (Keep.refl h0 []).ext E1
  have V1 : Arv Z h1 b1 k1 .byte (3 : Int32) [(.int (0 : Int32)), (.int (0 : Int32)), (.int (0 : Int32))] (.int (0 : Int32)) := (Arv.new A1 (by decide)).pad (pad_rep [] (.int (0 : Int32)) 3)
  have pre4 : ∀ t, Steps p.tables e below (T1.setTop (mkF m 9 #[rv u0, iv (0 : Int32), iv (3 : Int32), rv b1, .unset, .unset] [(.int (3 : Int32)), (.int (0 : Int32)), (.ref b1), (.int (0 : Int32)), (.ref u0)])) t → Steps p.tables e below (s₁.setTop (entryFrame m #[(.ref u0), (.int (0 : Int32)), (.int (3 : Int32))] 6)) t := fun t kt => pre0 t (by
   refine XS.iloadN X0.here hx rfl (hb hby d5_0) rfl ?_
   refine st1 _ ?_
   refine XS.astoreN X1.here hx rfl (hb hby d5_3) rfl rfl (l' := #[rv u0, iv (0 : Int32), iv (3 : Int32), rv b1, .unset, .unset]) rfl ?_
   refine XS.aloadN X1.here hx rfl (hb hby d5_4) rfl rfl ?_
   refine XS.iloadN X1.here hx rfl (hb hby d5_5) rfl ?_
   refine XS.aloadN X1.here hx rfl (hb hby d5_6) rfl rfl ?_
   refine XS.iconst X1.here hx rfl (hb hby d5_7) ?_
   refine XS.iloadN X1.here hx rfl (hb hby d5_8) rfl ?_
   exact kt)
  by_cases hc9_3 : (255 : Int32) < c0
  · have f5 : Arv Z h1 u0 kA .char (3 : Int32) [(.int c0), (.int c1), (.int c2)] (.int (0 : Int32)) := (P_V_u0.ext E1)
    have f6 : n0 ≤ h1.size := (Nat.le_trans Z0 E1.1)
    obtain ⟨_, _, ⟨T7, L7, k7, n7⟩, -, X7, ⟨Lc7, hQ7, l7, y7, z7⟩, st7⟩ := Jvm.LawKit.callS X1 hx (y := own_y5) hown (mvT hZ (own_g hw 26 rfl)) (mvT hZ (own_g hw 27 rfl)) (mvT hZ (own_g hw 23 rfl)) (mvT hZ (own_g hw 28 rfl)) (by decide) (backOf (W := 0) (rmC5_3_0 l Z a0 hw [] u0 b1 kA c0 c1 c2 k1 (0 : Int32) (0 : Int32) (0 : Int32) h1 n0 f6 f5 V1 ne2 hc9_3 o1) hZ (own_g hw 28 rfl) (own_g hw 23 rfl) (by decide) (by decide)) (g := (mkF m 9 #[rv u0, iv (0 : Int32), iv (3 : Int32), rv b1, .unset, .unset] [(.int (3 : Int32)), (.int (0 : Int32)), (.ref b1), (.int (0 : Int32)), (.ref u0)])) rfl (by rw [hml]; rfl) (argsL := [(.ref u0), (.int (0 : Int32)), (.ref b1), (.int (0 : Int32)), (.int (3 : Int32))]) (rest := []) (lenOf pd___CI_BII_I rfl) rfl (by show 2 * 0 + _ ≤ _; exact Nat.le_of_eq rfl) (hb hby d5_9) (fun _ _ => ⟨rfl, e1, (by decide : 1 + 0 ≤ _), (by decide : 3 + 0 ≤ _)⟩)
    dsimp only [Pt.U, Pt.locs, Pt.cells, Pt.slots] at X7 l7 y7 z7 st7 hQ7
    subst l7 y7 z7
    obtain ⟨rfl, N7q, K7, f8⟩ := hQ7
    have KK7 : Keep h0 T7.heap [] := Keep.trans K1 K7 (allS (Or.inr z1) all0)
    have N7 := Fr.app N0 N7q
    have f9 : Sta Z T7.heap "java/lang/StringUTF16" "$assertionsDisabled" "Z" (.int (1 : Int32)) := (own_staKeep (P_S_StringUTF16__assertionsDisabled.ext E1) K7 (nsS V1.nostat ns0))
    have f10 : Sta Z T7.heap "java/lang/StringUTF16" "HI_BYTE_SHIFT" "I" (.int (0 : Int32)) := (own_staKeep (P_S_StringUTF16_HI_BYTE_SHIFT.ext E1) K7 (nsS V1.nostat ns0))
    have f11 : Sta Z T7.heap "java/lang/StringUTF16" "LO_BYTE_SHIFT" "I" (.int (8 : Int32)) := (own_staKeep (P_S_StringUTF16_LO_BYTE_SHIFT.ext E1) K7 (nsS V1.nostat ns0))
    have f12 : Arv Z T7.heap u0 kA .char (3 : Int32) [(.int c0), (.int c1), (.int c2)] (.int (0 : Int32)) := (f5.keep K7 (ninS ne2 nin0))
    have f13 : n0 ≤ T7.heap.size := (Nat.le_trans f6 K7.1)
    obtain ⟨_, _, ⟨T14, L14, k14, n14⟩, -, X14, ⟨Lc14, hQ14, l14, y14, z14⟩, st14⟩ := Jvm.LawKit.callS X7 hx (y := own_y4) hown (mvT hZ (own_g hw 29 rfl)) (mvT hZ (own_g hw 30 rfl)) (mvT hZ (own_g hw 23 rfl)) (mvT hZ (own_g hw 31 rfl)) (by decide) (backOf (W := 0) (rmTB3 l Z a0 hw [] u0 kA c0 c1 c2 T7.heap n0 f13 f9 f10 f11 f12) hZ (own_g hw 31 rfl) (own_g hw 23 rfl) (by decide) (by decide)) (g := (mkF m 23 #[rv u0, iv (0 : Int32), iv (3 : Int32), rv b1, iv (0 : Int32), .unset] [(.int (3 : Int32)), (.int (0 : Int32)), (.ref u0)])) rfl (by rw [hml]; rfl) (argsL := [(.ref u0), (.int (0 : Int32)), (.int (3 : Int32))]) (rest := []) (lenOf pd___CII__B rfl) rfl (by show 2 * 0 + _ ≤ _; exact Nat.le_of_eq rfl) (hb hby d5_23) (fun _ _ => ⟨rfl, rfl, (by decide : 1 + 1 ≤ _), (by decide : 3 + 6 ≤ _)⟩)
    dsimp only [Pt.U, Pt.locs, Pt.cells, Pt.slots] at X14 l14 y14 z14 st14 hQ14
    subst l14 y14 z14
    obtain ⟨t_14, kt_14, rfl, N14q, K14, sx14_0, f15⟩ := hQ14
    have ot_14 : n0 ≤ t_14 := Nat.le_trans f13 sx14_0
    have zt_14 : h0.size ≤ t_14 := Nat.le_trans KK7.1 sx14_0
    have ne16 : u0 ≠ t_14 := Nat.ne_of_lt (Nat.lt_of_lt_of_le f12.lt sx14_0)
    have ne17 : b1 ≠ t_14 := Nat.ne_of_lt (Nat.lt_of_lt_of_le f8.lt sx14_0)
    have KK14 : Keep h0 T14.heap [] := Keep.trans KK7 K14 all0
    have N14 := Fr.app N7 N14q
    have f18 : Sta Z T14.heap "java/lang/StringUTF16" "$assertionsDisabled" "Z" (.int (1 : Int32)) := (own_staKeep f9 K14 ns0)
    have f19 : Sta Z T14.heap "java/lang/StringUTF16" "HI_BYTE_SHIFT" "I" (.int (0 : Int32)) := (own_staKeep f10 K14 ns0)
    have f20 : Sta Z T14.heap "java/lang/StringUTF16" "LO_BYTE_SHIFT" "I" (.int (8 : Int32)) := (own_staKeep f11 K14 ns0)
    have f21 : n0 ≤ T14.heap.size := (Nat.le_trans f13 K14.1)
    obtain ⟨_, _, ⟨T22, L22, k22, n22⟩, -, X22, ⟨Lc22, hQ22, l22, y22, z22⟩, st22⟩ := Jvm.LawKit.callS X14 hx (y := own_y3) hown (mvT hZ (own_g hw 45 rfl)) (mvT hZ (own_g hw 46 rfl)) (mvT hZ (own_g hw 23 rfl)) (mvT hZ (own_g hw 47 rfl)) (by decide) (backOf (W := 0) (rmGC3_0 l Z a0 hw [] t_14 kt_14 (((c0 >>> ((0 : Int32) &&& 31)).toInt8.toInt32).toInt8.toInt32) (((c0 >>> ((8 : Int32) &&& 31)).toInt8.toInt32).toInt8.toInt32) (((c1 >>> ((0 : Int32) &&& 31)).toInt8.toInt32).toInt8.toInt32) (((c1 >>> ((8 : Int32) &&& 31)).toInt8.toInt32).toInt8.toInt32) (((c2 >>> ((0 : Int32) &&& 31)).toInt8.toInt32).toInt8.toInt32) (((c2 >>> ((8 : Int32) &&& 31)).toInt8.toInt32).toInt8.toInt32) T14.heap n0 f21 f18 f19 f20 f15) hZ (own_g hw 47 rfl) (own_g hw 23 rfl) (by decide) (by decide)) (g := (mkF m 32 #[rv u0, iv (0 : Int32), iv (3 : Int32), rv b1, iv (0 : Int32), rv t_14] [(.int (0 : Int32)), (.ref t_14)])) rfl (by rw [hml]; rfl) (argsL := [(.ref t_14), (.int (0 : Int32))]) (rest := []) (lenOf pd___BI_C rfl) rfl (by show 2 * 0 + _ ≤ _; exact Nat.le_of_eq rfl) (hb hby d5_32) (fun _ _ => ⟨rfl, rfl, (by decide : 2 + 0 ≤ _), (by decide : 9 + 0 ≤ _)⟩)
    dsimp only [Pt.U, Pt.locs, Pt.cells, Pt.slots] at X22 l22 y22 z22 st22 hQ22
    subst l22 y22 z22
    obtain ⟨rfl, N22q, e22⟩ := hQ22
    have N22 := Fr.app N14 N22q
    obtain ⟨fs, hr, hrun, hended, hW, hsame⟩ := X22.leave (v := some (.ref t_14)) (fun h => by rw [Bd.returns] at h; cases h)
    refine ⟨_, _, pre4 _ ?_, hrun, hended, _, _, rfl, ?_, ⟨_, rfl⟩, hW, hsame.mono (by decide) (by decide)⟩
    · show Steps _ _ _ (T1.setTop (mkF m 9 #[rv u0, iv (0 : Int32), iv (3 : Int32), rv b1, .unset, .unset] [(.int (3 : Int32)), (.int (0 : Int32)), (.ref b1), (.int (0 : Int32)), (.ref u0)])) _
      refine st7 _ ?_
      refine XS.istore X7.here hx rfl (hb hby d5_12) rfl (l' := #[rv u0, iv (0 : Int32), iv (3 : Int32), rv b1, iv (0 : Int32), .unset]) rfl ?_
      refine XS.iload X7.here hx rfl (hb hby d5_14) rfl ?_
      refine XS.iloadN X7.here hx rfl (hb hby d5_16) rfl ?_
      refine XS.icmpNo X7.here hx rfl (hb hby d5_17) rfl (feq (by decide : ¬ ((0 : Int32) = (3 : Int32)))).1 ?_
      refine XS.aloadN X7.here hx rfl (hb hby d5_20) rfl rfl ?_
      refine XS.iloadN X7.here hx rfl (hb hby d5_21) rfl ?_
      refine XS.iloadN X7.here hx rfl (hb hby d5_22) rfl ?_
      show Steps _ _ _ (T7.setTop (mkF m 23 #[rv u0, iv (0 : Int32), iv (3 : Int32), rv b1, iv (0 : Int32), .unset] [(.int (3 : Int32)), (.int (0 : Int32)), (.ref u0)])) _
      refine st14 _ ?_
      refine XS.astore X14.here hx rfl (hb hby d5_26) rfl rfl (l' := #[rv u0, iv (0 : Int32), iv (3 : Int32), rv b1, iv (0 : Int32), rv t_14]) rfl ?_
      refine XS.aload X14.here hx rfl (hb hby d5_28) rfl rfl ?_
      refine XS.iload X14.here hx rfl (hb hby d5_30) rfl ?_
      show Steps _ _ _ (T14.setTop (mkF m 32 #[rv u0, iv (0 : Int32), iv (3 : Int32), rv b1, iv (0 : Int32), rv t_14] [(.int (0 : Int32)), (.ref t_14)])) _
      refine st22 _ ?_
      refine XS.sipush X22.here hx rfl (hb hby d5_35) ?_
      refine XS.icmpYes X22.here hx rfl (pc0 := 38) (pc' := 54) rfl (hb hby d5_38) rfl (tlt (own_gp hr0 hc9_3)).2.2.1 (by decide) (by decide) ?_
      refine XS.aload X22.here hx rfl (hb hby d5_54) rfl rfl ?_
      show Steps _ _ _ (T22.setTop (mkF m 56 #[rv u0, iv (0 : Int32), iv (3 : Int32), rv b1, iv (0 : Int32), rv t_14] [(.ref t_14)])) _
      exact retOut X22 hx Bd.returns rfl (Or.inr (Or.inr (Or.inr (Or.inr ⟨rfl, rfl, rfl⟩)))) (hb hby d5_56) hr
    · show Q_rmC3_3 Z u0 kA c0 c1 c2 h0 n0 _ T22.heap _
      rw [e22]
      exact ⟨t_14, kt_14, (6 : Int32), [(.int (((c0 >>> ((0 : Int32) &&& 31)).toInt8.toInt32).toInt8.toInt32)), (.int (((c0 >>> ((8 : Int32) &&& 31)).toInt8.toInt32).toInt8.toInt32)), (.int (((c1 >>> ((0 : Int32) &&& 31)).toInt8.toInt32).toInt8.toInt32)), (.int (((c1 >>> ((8 : Int32) &&& 31)).toInt8.toInt32).toInt8.toInt32)), (.int (((c2 >>> ((0 : Int32) &&& 31)).toInt8.toInt32).toInt8.toInt32)), (.int (((c2 >>> ((8 : Int32) &&& 31)).toInt8.toInt32).toInt8.toInt32))], rfl, N22, KK14, zt_14, f15, (Or.inr rfl)⟩
  · by_cases hc9_23 : (255 : Int32) < c1
    · have f24 : Arv Z h1 u0 kA .char (3 : Int32) [(.int c0), (.int c1), (.int c2)] (.int (0 : Int32)) := (P_V_u0.ext E1)
      have f25 : n0 ≤ h1.size := (Nat.le_trans Z0 E1.1)
      obtain ⟨_, _, ⟨T26, L26, k26, n26⟩, -, X26, ⟨Lc26, hQ26, l26, y26, z26⟩, st26⟩ := Jvm.LawKit.callS X1 hx (y := own_y5) hown (mvT hZ (own_g hw 26 rfl)) (mvT hZ (own_g hw 27 rfl)) (mvT hZ (own_g hw 23 rfl)) (mvT hZ (own_g hw 28 rfl)) (by decide) (backOf (W := 0) (rmC5_3_1 l Z a0 hw [] u0 b1 kA c0 c1 c2 k1 (0 : Int32) (0 : Int32) (0 : Int32) h1 n0 f25 f24 V1 ne2 hc9_3 hc9_23 o1) hZ (own_g hw 28 rfl) (own_g hw 23 rfl) (by decide) (by decide)) (g := (mkF m 9 #[rv u0, iv (0 : Int32), iv (3 : Int32), rv b1, .unset, .unset] [(.int (3 : Int32)), (.int (0 : Int32)), (.ref b1), (.int (0 : Int32)), (.ref u0)])) rfl (by rw [hml]; rfl) (argsL := [(.ref u0), (.int (0 : Int32)), (.ref b1), (.int (0 : Int32)), (.int (3 : Int32))]) (rest := []) (lenOf pd___CI_BII_I rfl) rfl (by show 2 * 0 + _ ≤ _; exact Nat.le_of_eq rfl) (hb hby d5_9) (fun _ _ => ⟨rfl, e1, (by decide : 1 + 0 ≤ _), (by decide : 3 + 0 ≤ _)⟩)
      dsimp only [Pt.U, Pt.locs, Pt.cells, Pt.slots] at X26 l26 y26 z26 st26 hQ26
      subst l26 y26 z26
      obtain ⟨rfl, N26q, K26, f27⟩ := hQ26
      have KK26 : Keep h0 T26.heap [] := Keep.trans K1 K26 (allS (Or.inr z1) all0)
      have N26 := Fr.app N0 N26q
      have f28 : Sta Z T26.heap "java/lang/StringUTF16" "$assertionsDisabled" "Z" (.int (1 : Int32)) := (own_staKeep (P_S_StringUTF16__assertionsDisabled.ext E1) K26 (nsS V1.nostat ns0))
      have f29 : Sta Z T26.heap "java/lang/StringUTF16" "HI_BYTE_SHIFT" "I" (.int (0 : Int32)) := (own_staKeep (P_S_StringUTF16_HI_BYTE_SHIFT.ext E1) K26 (nsS V1.nostat ns0))
      have f30 : Sta Z T26.heap "java/lang/StringUTF16" "LO_BYTE_SHIFT" "I" (.int (8 : Int32)) := (own_staKeep (P_S_StringUTF16_LO_BYTE_SHIFT.ext E1) K26 (nsS V1.nostat ns0))
      have f31 : Arv Z T26.heap u0 kA .char (3 : Int32) [(.int c0), (.int c1), (.int c2)] (.int (0 : Int32)) := (f24.keep K26 (ninS ne2 nin0))
      have f32 : n0 ≤ T26.heap.size := (Nat.le_trans f25 K26.1)
      obtain ⟨_, _, ⟨T33, L33, k33, n33⟩, -, X33, ⟨Lc33, hQ33, l33, y33, z33⟩, st33⟩ := Jvm.LawKit.callS X26 hx (y := own_y4) hown (mvT hZ (own_g hw 29 rfl)) (mvT hZ (own_g hw 30 rfl)) (mvT hZ (own_g hw 23 rfl)) (mvT hZ (own_g hw 31 rfl)) (by decide) (backOf (W := 0) (rmTB3 l Z a0 hw [] u0 kA c0 c1 c2 T26.heap n0 f32 f28 f29 f30 f31) hZ (own_g hw 31 rfl) (own_g hw 23 rfl) (by decide) (by decide)) (g := (mkF m 23 #[rv u0, iv (0 : Int32), iv (3 : Int32), rv b1, iv (1 : Int32), .unset] [(.int (3 : Int32)), (.int (0 : Int32)), (.ref u0)])) rfl (by rw [hml]; rfl) (argsL := [(.ref u0), (.int (0 : Int32)), (.int (3 : Int32))]) (rest := []) (lenOf pd___CII__B rfl) rfl (by show 2 * 0 + _ ≤ _; exact Nat.le_of_eq rfl) (hb hby d5_23) (fun _ _ => ⟨rfl, rfl, (by decide : 1 + 1 ≤ _), (by decide : 3 + 6 ≤ _)⟩)
      dsimp only [Pt.U, Pt.locs, Pt.cells, Pt.slots] at X33 l33 y33 z33 st33 hQ33
      subst l33 y33 z33
      obtain ⟨t_33, kt_33, rfl, N33q, K33, sx33_0, f34⟩ := hQ33
      have ot_33 : n0 ≤ t_33 := Nat.le_trans f32 sx33_0
      have zt_33 : h0.size ≤ t_33 := Nat.le_trans KK26.1 sx33_0
      have ne35 : u0 ≠ t_33 := Nat.ne_of_lt (Nat.lt_of_lt_of_le f31.lt sx33_0)
      have ne36 : b1 ≠ t_33 := Nat.ne_of_lt (Nat.lt_of_lt_of_le f27.lt sx33_0)
      have KK33 : Keep h0 T33.heap [] := Keep.trans KK26 K33 all0
      have N33 := Fr.app N26 N33q
      have f37 : Sta Z T33.heap "java/lang/StringUTF16" "$assertionsDisabled" "Z" (.int (1 : Int32)) := (own_staKeep f28 K33 ns0)
      have f38 : Sta Z T33.heap "java/lang/StringUTF16" "HI_BYTE_SHIFT" "I" (.int (0 : Int32)) := (own_staKeep f29 K33 ns0)
      have f39 : Sta Z T33.heap "java/lang/StringUTF16" "LO_BYTE_SHIFT" "I" (.int (8 : Int32)) := (own_staKeep f30 K33 ns0)
      have f40 : n0 ≤ T33.heap.size := (Nat.le_trans f32 K33.1)
      obtain ⟨_, _, ⟨T41, L41, k41, n41⟩, -, X41, ⟨Lc41, hQ41, l41, y41, z41⟩, st41⟩ := Jvm.LawKit.callS X33 hx (y := own_y3) hown (mvT hZ (own_g hw 45 rfl)) (mvT hZ (own_g hw 46 rfl)) (mvT hZ (own_g hw 23 rfl)) (mvT hZ (own_g hw 47 rfl)) (by decide) (backOf (W := 0) (rmGC3_1 l Z a0 hw [] t_33 kt_33 (((c0 >>> ((0 : Int32) &&& 31)).toInt8.toInt32).toInt8.toInt32) (((c0 >>> ((8 : Int32) &&& 31)).toInt8.toInt32).toInt8.toInt32) (((c1 >>> ((0 : Int32) &&& 31)).toInt8.toInt32).toInt8.toInt32) (((c1 >>> ((8 : Int32) &&& 31)).toInt8.toInt32).toInt8.toInt32) (((c2 >>> ((0 : Int32) &&& 31)).toInt8.toInt32).toInt8.toInt32) (((c2 >>> ((8 : Int32) &&& 31)).toInt8.toInt32).toInt8.toInt32) T33.heap n0 f40 f37 f38 f39 f34) hZ (own_g hw 47 rfl) (own_g hw 23 rfl) (by decide) (by decide)) (g := (mkF m 32 #[rv u0, iv (0 : Int32), iv (3 : Int32), rv b1, iv (1 : Int32), rv t_33] [(.int (1 : Int32)), (.ref t_33)])) rfl (by rw [hml]; rfl) (argsL := [(.ref t_33), (.int (1 : Int32))]) (rest := []) (lenOf pd___BI_C rfl) rfl (by show 2 * 0 + _ ≤ _; exact Nat.le_of_eq rfl) (hb hby d5_32) (fun _ _ => ⟨rfl, rfl, (by decide : 2 + 0 ≤ _), (by decide : 9 + 0 ≤ _)⟩)
      dsimp only [Pt.U, Pt.locs, Pt.cells, Pt.slots] at X41 l41 y41 z41 st41 hQ41
      subst l41 y41 z41
      obtain ⟨rfl, N41q, e41⟩ := hQ41
      have N41 := Fr.app N33 N41q
      obtain ⟨fs, hr, hrun, hended, hW, hsame⟩ := X41.leave (v := some (.ref t_33)) (fun h => by rw [Bd.returns] at h; cases h)
      refine ⟨_, _, pre4 _ ?_, hrun, hended, _, _, rfl, ?_, ⟨_, rfl⟩, hW, hsame.mono (by decide) (by decide)⟩
      · show Steps _ _ _ (T1.setTop (mkF m 9 #[rv u0, iv (0 : Int32), iv (3 : Int32), rv b1, .unset, .unset] [(.int (3 : Int32)), (.int (0 : Int32)), (.ref b1), (.int (0 : Int32)), (.ref u0)])) _
        refine st26 _ ?_
        refine XS.istore X26.here hx rfl (hb hby d5_12) rfl (l' := #[rv u0, iv (0 : Int32), iv (3 : Int32), rv b1, iv (1 : Int32), .unset]) rfl ?_
        refine XS.iload X26.here hx rfl (hb hby d5_14) rfl ?_
        show Steps _ _ _ (T26.setTop (mkF m 16 #[rv u0, iv (0 : Int32), iv (3 : Int32), rv b1, iv (1 : Int32), .unset] [(.int (1 : Int32))])) _
        refine XS.iloadN X26.here hx rfl (hb hby d5_16) rfl ?_
        refine XS.icmpNo X26.here hx rfl (hb hby d5_17) rfl (feq (by decide : ¬ ((1 : Int32) = (3 : Int32)))).1 ?_
        refine XS.aloadN X26.here hx rfl (hb hby d5_20) rfl rfl ?_
        refine XS.iloadN X26.here hx rfl (hb hby d5_21) rfl ?_
        refine XS.iloadN X26.here hx rfl (hb hby d5_22) rfl ?_
        show Steps _ _ _ (T26.setTop (mkF m 23 #[rv u0, iv (0 : Int32), iv (3 : Int32), rv b1, iv (1 : Int32), .unset] [(.int (3 : Int32)), (.int (0 : Int32)), (.ref u0)])) _
        refine st33 _ ?_
        refine XS.astore X33.here hx rfl (hb hby d5_26) rfl rfl (l' := #[rv u0, iv (0 : Int32), iv (3 : Int32), rv b1, iv (1 : Int32), rv t_33]) rfl ?_
        refine XS.aload X33.here hx rfl (hb hby d5_28) rfl rfl ?_
        refine XS.iload X33.here hx rfl (hb hby d5_30) rfl ?_
        show Steps _ _ _ (T33.setTop (mkF m 32 #[rv u0, iv (0 : Int32), iv (3 : Int32), rv b1, iv (1 : Int32), rv t_33] [(.int (1 : Int32)), (.ref t_33)])) _
        refine st41 _ ?_
        refine XS.sipush X41.here hx rfl (hb hby d5_35) ?_
        refine XS.icmpYes X41.here hx rfl (pc0 := 38) (pc' := 54) rfl (hb hby d5_38) rfl (tlt (own_gp hr1 hc9_23)).2.2.1 (by decide) (by decide) ?_
        refine XS.aload X41.here hx rfl (hb hby d5_54) rfl rfl ?_
        show Steps _ _ _ (T41.setTop (mkF m 56 #[rv u0, iv (0 : Int32), iv (3 : Int32), rv b1, iv (1 : Int32), rv t_33] [(.ref t_33)])) _
        exact retOut X41 hx Bd.returns rfl (Or.inr (Or.inr (Or.inr (Or.inr ⟨rfl, rfl, rfl⟩)))) (hb hby d5_56) hr
      · show Q_rmC3_3 Z u0 kA c0 c1 c2 h0 n0 _ T41.heap _
        rw [e41]
        exact ⟨t_33, kt_33, (6 : Int32), [(.int (((c0 >>> ((0 : Int32) &&& 31)).toInt8.toInt32).toInt8.toInt32)), (.int (((c0 >>> ((8 : Int32) &&& 31)).toInt8.toInt32).toInt8.toInt32)), (.int (((c1 >>> ((0 : Int32) &&& 31)).toInt8.toInt32).toInt8.toInt32)), (.int (((c1 >>> ((8 : Int32) &&& 31)).toInt8.toInt32).toInt8.toInt32)), (.int (((c2 >>> ((0 : Int32) &&& 31)).toInt8.toInt32).toInt8.toInt32)), (.int (((c2 >>> ((8 : Int32) &&& 31)).toInt8.toInt32).toInt8.toInt32))], rfl, N41, KK33, zt_33, f34, (Or.inr rfl)⟩
    · by_cases hc9_42 : (255 : Int32) < c2
      · have f43 : Arv Z h1 u0 kA .char (3 : Int32) [(.int c0), (.int c1), (.int c2)] (.int (0 : Int32)) := (P_V_u0.ext E1)
        have f44 : n0 ≤ h1.size := (Nat.le_trans Z0 E1.1)
        obtain ⟨_, _, ⟨T45, L45, k45, n45⟩, -, X45, ⟨Lc45, hQ45, l45, y45, z45⟩, st45⟩ := Jvm.LawKit.callS X1 hx (y := own_y5) hown (mvT hZ (own_g hw 26 rfl)) (mvT hZ (own_g hw 27 rfl)) (mvT hZ (own_g hw 23 rfl)) (mvT hZ (own_g hw 28 rfl)) (by decide) (backOf (W := 0) (rmC5_3_2 l Z a0 hw [] u0 b1 kA c0 c1 c2 k1 (0 : Int32) (0 : Int32) (0 : Int32) h1 n0 f44 f43 V1 ne2 hc9_3 hc9_23 hc9_42 o1) hZ (own_g hw 28 rfl) (own_g hw 23 rfl) (by decide) (by decide)) (g := (mkF m 9 #[rv u0, iv (0 : Int32), iv (3 : Int32), rv b1, .unset, .unset] [(.int (3 : Int32)), (.int (0 : Int32)), (.ref b1), (.int (0 : Int32)), (.ref u0)])) rfl (by rw [hml]; rfl) (argsL := [(.ref u0), (.int (0 : Int32)), (.ref b1), (.int (0 : Int32)), (.int (3 : Int32))]) (rest := []) (lenOf pd___CI_BII_I rfl) rfl (by show 2 * 0 + _ ≤ _; exact Nat.le_of_eq rfl) (hb hby d5_9) (fun _ _ => ⟨rfl, e1, (by decide : 1 + 0 ≤ _), (by decide : 3 + 0 ≤ _)⟩)
        dsimp only [Pt.U, Pt.locs, Pt.cells, Pt.slots] at X45 l45 y45 z45 st45 hQ45
        subst l45 y45 z45
        obtain ⟨rfl, N45q, K45, f46⟩ := hQ45
        have KK45 : Keep h0 T45.heap [] := Keep.trans K1 K45 (allS (Or.inr z1) all0)
        have N45 := Fr.app N0 N45q
        have f47 : Sta Z T45.heap "java/lang/StringUTF16" "$assertionsDisabled" "Z" (.int (1 : Int32)) := (own_staKeep (P_S_StringUTF16__assertionsDisabled.ext E1) K45 (nsS V1.nostat ns0))
        have f48 : Sta Z T45.heap "java/lang/StringUTF16" "HI_BYTE_SHIFT" "I" (.int (0 : Int32)) := (own_staKeep (P_S_StringUTF16_HI_BYTE_SHIFT.ext E1) K45 (nsS V1.nostat ns0))
        have f49 : Sta Z T45.heap "java/lang/StringUTF16" "LO_BYTE_SHIFT" "I" (.int (8 : Int32)) := (own_staKeep (P_S_StringUTF16_LO_BYTE_SHIFT.ext E1) K45 (nsS V1.nostat ns0))
        have f50 : Arv Z T45.heap u0 kA .char (3 : Int32) [(.int c0), (.int c1), (.int c2)] (.int (0 : Int32)) := (f43.keep K45 (ninS ne2 nin0))
        have f51 : n0 ≤ T45.heap.size := (Nat.le_trans f44 K45.1)
        obtain ⟨_, _, ⟨T52, L52, k52, n52⟩, -, X52, ⟨Lc52, hQ52, l52, y52, z52⟩, st52⟩ := Jvm.LawKit.callS X45 hx (y := own_y4) hown (mvT hZ (own_g hw 29 rfl)) (mvT hZ (own_g hw 30 rfl)) (mvT hZ (own_g hw 23 rfl)) (mvT hZ (own_g hw 31 rfl)) (by decide) (backOf (W := 0) (rmTB3 l Z a0 hw [] u0 kA c0 c1 c2 T45.heap n0 f51 f47 f48 f49 f50) hZ (own_g hw 31 rfl) (own_g hw 23 rfl) (by decide) (by decide)) (g := (mkF m 23 #[rv u0, iv (0 : Int32), iv (3 : Int32), rv b1, iv (2 : Int32), .unset] [(.int (3 : Int32)), (.int (0 : Int32)), (.ref u0)])) rfl (by rw [hml]; rfl) (argsL := [(.ref u0), (.int (0 : Int32)), (.int (3 : Int32))]) (rest := []) (lenOf pd___CII__B rfl) rfl (by show 2 * 0 + _ ≤ _; exact Nat.le_of_eq rfl) (hb hby d5_23) (fun _ _ => ⟨rfl, rfl, (by decide : 1 + 1 ≤ _), (by decide : 3 + 6 ≤ _)⟩)
        dsimp only [Pt.U, Pt.locs, Pt.cells, Pt.slots] at X52 l52 y52 z52 st52 hQ52
        subst l52 y52 z52
        obtain ⟨t_52, kt_52, rfl, N52q, K52, sx52_0, f53⟩ := hQ52
        have ot_52 : n0 ≤ t_52 := Nat.le_trans f51 sx52_0
        have zt_52 : h0.size ≤ t_52 := Nat.le_trans KK45.1 sx52_0
        have ne54 : u0 ≠ t_52 := Nat.ne_of_lt (Nat.lt_of_lt_of_le f50.lt sx52_0)
        have ne55 : b1 ≠ t_52 := Nat.ne_of_lt (Nat.lt_of_lt_of_le f46.lt sx52_0)
        have KK52 : Keep h0 T52.heap [] := Keep.trans KK45 K52 all0
        have N52 := Fr.app N45 N52q
        have f56 : Sta Z T52.heap "java/lang/StringUTF16" "$assertionsDisabled" "Z" (.int (1 : Int32)) := (own_staKeep f47 K52 ns0)
        have f57 : Sta Z T52.heap "java/lang/StringUTF16" "HI_BYTE_SHIFT" "I" (.int (0 : Int32)) := (own_staKeep f48 K52 ns0)
        have f58 : Sta Z T52.heap "java/lang/StringUTF16" "LO_BYTE_SHIFT" "I" (.int (8 : Int32)) := (own_staKeep f49 K52 ns0)
        have f59 : n0 ≤ T52.heap.size := (Nat.le_trans f51 K52.1)
        obtain ⟨_, _, ⟨T60, L60, k60, n60⟩, -, X60, ⟨Lc60, hQ60, l60, y60, z60⟩, st60⟩ := Jvm.LawKit.callS X52 hx (y := own_y3) hown (mvT hZ (own_g hw 45 rfl)) (mvT hZ (own_g hw 46 rfl)) (mvT hZ (own_g hw 23 rfl)) (mvT hZ (own_g hw 47 rfl)) (by decide) (backOf (W := 0) (rmGC3_2 l Z a0 hw [] t_52 kt_52 (((c0 >>> ((0 : Int32) &&& 31)).toInt8.toInt32).toInt8.toInt32) (((c0 >>> ((8 : Int32) &&& 31)).toInt8.toInt32).toInt8.toInt32) (((c1 >>> ((0 : Int32) &&& 31)).toInt8.toInt32).toInt8.toInt32) (((c1 >>> ((8 : Int32) &&& 31)).toInt8.toInt32).toInt8.toInt32) (((c2 >>> ((0 : Int32) &&& 31)).toInt8.toInt32).toInt8.toInt32) (((c2 >>> ((8 : Int32) &&& 31)).toInt8.toInt32).toInt8.toInt32) T52.heap n0 f59 f56 f57 f58 f53) hZ (own_g hw 47 rfl) (own_g hw 23 rfl) (by decide) (by decide)) (g := (mkF m 32 #[rv u0, iv (0 : Int32), iv (3 : Int32), rv b1, iv (2 : Int32), rv t_52] [(.int (2 : Int32)), (.ref t_52)])) rfl (by rw [hml]; rfl) (argsL := [(.ref t_52), (.int (2 : Int32))]) (rest := []) (lenOf pd___BI_C rfl) rfl (by show 2 * 0 + _ ≤ _; exact Nat.le_of_eq rfl) (hb hby d5_32) (fun _ _ => ⟨rfl, rfl, (by decide : 2 + 0 ≤ _), (by decide : 9 + 0 ≤ _)⟩)
        dsimp only [Pt.U, Pt.locs, Pt.cells, Pt.slots] at X60 l60 y60 z60 st60 hQ60
        subst l60 y60 z60
        obtain ⟨rfl, N60q, e60⟩ := hQ60
        have N60 := Fr.app N52 N60q
        obtain ⟨fs, hr, hrun, hended, hW, hsame⟩ := X60.leave (v := some (.ref t_52)) (fun h => by rw [Bd.returns] at h; cases h)
        refine ⟨_, _, pre4 _ ?_, hrun, hended, _, _, rfl, ?_, ⟨_, rfl⟩, hW, hsame.mono (by decide) (by decide)⟩
        · show Steps _ _ _ (T1.setTop (mkF m 9 #[rv u0, iv (0 : Int32), iv (3 : Int32), rv b1, .unset, .unset] [(.int (3 : Int32)), (.int (0 : Int32)), (.ref b1), (.int (0 : Int32)), (.ref u0)])) _
          refine st45 _ ?_
          refine XS.istore X45.here hx rfl (hb hby d5_12) rfl (l' := #[rv u0, iv (0 : Int32), iv (3 : Int32), rv b1, iv (2 : Int32), .unset]) rfl ?_
          refine XS.iload X45.here hx rfl (hb hby d5_14) rfl ?_
          refine XS.iloadN X45.here hx rfl (hb hby d5_16) rfl ?_
          refine XS.icmpNo X45.here hx rfl (hb hby d5_17) rfl (feq (by decide : ¬ ((2 : Int32) = (3 : Int32)))).1 ?_
          refine XS.aloadN X45.here hx rfl (hb hby d5_20) rfl rfl ?_
          refine XS.iloadN X45.here hx rfl (hb hby d5_21) rfl ?_
          refine XS.iloadN X45.here hx rfl (hb hby d5_22) rfl ?_
          show Steps _ _ _ (T45.setTop (mkF m 23 #[rv u0, iv (0 : Int32), iv (3 : Int32), rv b1, iv (2 : Int32), .unset] [(.int (3 : Int32)), (.int (0 : Int32)), (.ref u0)])) _
          refine st52 _ ?_
          refine XS.astore X52.here hx rfl (hb hby d5_26) rfl rfl (l' := #[rv u0, iv (0 : Int32), iv (3 : Int32), rv b1, iv (2 : Int32), rv t_52]) rfl ?_
          refine XS.aload X52.here hx rfl (hb hby d5_28) rfl rfl ?_
          refine XS.iload X52.here hx rfl (hb hby d5_30) rfl ?_
          show Steps _ _ _ (T52.setTop (mkF m 32 #[rv u0, iv (0 : Int32), iv (3 : Int32), rv b1, iv (2 : Int32), rv t_52] [(.int (2 : Int32)), (.ref t_52)])) _
          refine st60 _ ?_
          refine XS.sipush X60.here hx rfl (hb hby d5_35) ?_
          refine XS.icmpYes X60.here hx rfl (pc0 := 38) (pc' := 54) rfl (hb hby d5_38) rfl (tlt (own_gp hr2 hc9_42)).2.2.1 (by decide) (by decide) ?_
          refine XS.aload X60.here hx rfl (hb hby d5_54) rfl rfl ?_
          show Steps _ _ _ (T60.setTop (mkF m 56 #[rv u0, iv (0 : Int32), iv (3 : Int32), rv b1, iv (2 : Int32), rv t_52] [(.ref t_52)])) _
          exact retOut X60 hx Bd.returns rfl (Or.inr (Or.inr (Or.inr (Or.inr ⟨rfl, rfl, rfl⟩)))) (hb hby d5_56) hr
        · show Q_rmC3_3 Z u0 kA c0 c1 c2 h0 n0 _ T60.heap _
          rw [e60]
          exact ⟨t_52, kt_52, (6 : Int32), [(.int (((c0 >>> ((0 : Int32) &&& 31)).toInt8.toInt32).toInt8.toInt32)), (.int (((c0 >>> ((8 : Int32) &&& 31)).toInt8.toInt32).toInt8.toInt32)), (.int (((c1 >>> ((0 : Int32) &&& 31)).toInt8.toInt32).toInt8.toInt32)), (.int (((c1 >>> ((8 : Int32) &&& 31)).toInt8.toInt32).toInt8.toInt32)), (.int (((c2 >>> ((0 : Int32) &&& 31)).toInt8.toInt32).toInt8.toInt32)), (.int (((c2 >>> ((8 : Int32) &&& 31)).toInt8.toInt32).toInt8.toInt32))], rfl, N60, KK52, zt_52, f53, (Or.inr rfl)⟩
      · have f61 : Arv Z h1 u0 kA .char (3 : Int32) [(.int c0), (.int c1), (.int c2)] (.int (0 : Int32)) := (P_V_u0.ext E1)
        have f62 : n0 ≤ h1.size := (Nat.le_trans Z0 E1.1)
        obtain ⟨_, _, ⟨T63, L63, k63, n63⟩, -, X63, ⟨Lc63, hQ63, l63, y63, z63⟩, st63⟩ := Jvm.LawKit.callS X1 hx (y := own_y5) hown (mvT hZ (own_g hw 26 rfl)) (mvT hZ (own_g hw 27 rfl)) (mvT hZ (own_g hw 23 rfl)) (mvT hZ (own_g hw 28 rfl)) (by decide) (backOf (W := 0) (rmC5_3_3 l Z a0 hw [] u0 b1 kA c0 c1 c2 k1 (0 : Int32) (0 : Int32) (0 : Int32) h1 n0 f62 f61 V1 ne2 hc9_3 hc9_23 hc9_42 o1) hZ (own_g hw 28 rfl) (own_g hw 23 rfl) (by decide) (by decide)) (g := (mkF m 9 #[rv u0, iv (0 : Int32), iv (3 : Int32), rv b1, .unset, .unset] [(.int (3 : Int32)), (.int (0 : Int32)), (.ref b1), (.int (0 : Int32)), (.ref u0)])) rfl (by rw [hml]; rfl) (argsL := [(.ref u0), (.int (0 : Int32)), (.ref b1), (.int (0 : Int32)), (.int (3 : Int32))]) (rest := []) (lenOf pd___CI_BII_I rfl) rfl (by show 2 * 0 + _ ≤ _; exact Nat.le_of_eq rfl) (hb hby d5_9) (fun _ _ => ⟨rfl, e1, (by decide : 1 + 0 ≤ _), (by decide : 3 + 0 ≤ _)⟩)
        dsimp only [Pt.U, Pt.locs, Pt.cells, Pt.slots] at X63 l63 y63 z63 st63 hQ63
        subst l63 y63 z63
        obtain ⟨rfl, N63q, K63, f64⟩ := hQ63
        have KK63 : Keep h0 T63.heap [] := Keep.trans K1 K63 (allS (Or.inr z1) all0)
        have N63 := Fr.app N0 N63q
        obtain ⟨fs, hr, hrun, hended, hW, hsame⟩ := X63.leave (v := some (.ref b1)) (fun h => by rw [Bd.returns] at h; cases h)
        refine ⟨_, _, pre4 _ ?_, hrun, hended, _, _, rfl, ?_, ⟨_, rfl⟩, hW, hsame.mono (by decide) (by decide)⟩
        · show Steps _ _ _ (T1.setTop (mkF m 9 #[rv u0, iv (0 : Int32), iv (3 : Int32), rv b1, .unset, .unset] [(.int (3 : Int32)), (.int (0 : Int32)), (.ref b1), (.int (0 : Int32)), (.ref u0)])) _
          refine st63 _ ?_
          show Steps _ _ _ (T63.setTop (mkF m 12 #[rv u0, iv (0 : Int32), iv (3 : Int32), rv b1, .unset, .unset] [(.int (3 : Int32))])) _
          refine XS.istore X63.here hx rfl (hb hby d5_12) rfl (l' := #[rv u0, iv (0 : Int32), iv (3 : Int32), rv b1, iv (3 : Int32), .unset]) rfl ?_
          refine XS.iload X63.here hx rfl (hb hby d5_14) rfl ?_
          refine XS.iloadN X63.here hx rfl (hb hby d5_16) rfl ?_
          refine XS.icmpYes X63.here hx rfl (pc0 := 17) (pc' := 57) rfl (hb hby d5_17) rfl (teq (by decide : (3 : Int32) = (3 : Int32))).1 (by decide) (by decide) ?_
          refine XS.aloadN X63.here hx rfl (hb hby d5_57) rfl rfl ?_
          show Steps _ _ _ (T63.setTop (mkF m 58 #[rv u0, iv (0 : Int32), iv (3 : Int32), rv b1, iv (3 : Int32), .unset] [(.ref b1)])) _
          exact retOut X63 hx Bd.returns rfl (Or.inr (Or.inr (Or.inr (Or.inr ⟨rfl, rfl, rfl⟩)))) (hb hby d5_58) hr
        · show Q_rmC3_3 Z u0 kA c0 c1 c2 h0 n0 _ T63.heap _
          exact ⟨b1, k1, (3 : Int32), [(.int ((c0.toInt8.toInt32).toInt8.toInt32)), (.int ((c1.toInt8.toInt32).toInt8.toInt32)), (.int ((c2.toInt8.toInt32).toInt8.toInt32))], rfl, N63, KK63, z1, f64, (Or.inl rfl)⟩

theorem ef_rmCF3_3 (m : MethodId) (x0 : Addr) (x1 : Int32) : entryFrame m #[(.ref x0), (.int x1)] 2 = mkF m 0 #[rv x0, iv x1] [] := by first | (simp [entryFrame, mkF, argsToLocals, Value.category]; done) | rfl
set_option maxRecDepth 65536 in
set_option maxHeartbeats 40000000 in
theorem rmCF3_3 (l : Launch) (Z : State) (a0 : Array Value) (hw : ∀ d ∈ tables_1, d.before a0 Z = true) (ws : List Jvm.Cond) (u0 : Addr) (kt : ClassId) (vs : List Value) (h0 : Heap) (n0 : Nat) (Z0 : n0 ≤ h0.size) (P_G_u0 : Arv Z h0 u0 kt .byte (3 : Int32) vs (.int 0)) :
    MetFree l own_y7 (head1 (Jvm.Cond.code own_y7 jdk_52_method_15_code 2 (some .byte) :: ws) ({ frames := 0, cells := 0, slots := 0, locals := 0 } : Room)) (fun a U => a = #[(.ref u0), (.int (3 : Int32))] ∧ Z.Warmed39 U.vm ∧ U.heap = h0) (fun _ _ _ _ _ => True) (fun _ U o U' => ∃ v L, o = .returned v ∧ own_QP (some (.int (0 : Int32))) h0 n0 v U'.heap L ∧ FrameEnd U o U' L ({ frames := 0, cells := 0, slots := 0, locals := 0 } : Room).cells ({ frames := 0, cells := 0, slots := 0, locals := 0 } : Room).slots) := by
  refine MetFree.of_bodySF (plainFor_of_name pn_12) hisR ?_
  intro p e s m args below meth c s₁ Bd hml0 hP hK
  obtain ⟨rfl, hZ, hh⟩ := hP
  have hx := Bd.exec
  have hby := Bd.bytes
  have hml : c.maxLocals = 2 := hml0
  have hown : s.vm.findClass "java/lang/StringUTF16" = some m.cls := findClass_of_methodNamed Bd.named
  have hnm := (name_of_methodNamed Bd.named Bd.method).1
  have X0 : Stand p l e ({ frames := 0, cells := 0, slots := 0, locals := 0 } : Room) s m #[(.ref u0), (.int (3 : Int32))] below meth c s₁ [] 0 0 := Stand.of_body Bd
  have e0 : s₁.heap = h0 := by rw [← hh, Bd.state]; rfl
  have N0 := Fr.nil n0
  have pre0 : ∀ t, Steps p.tables e below (s₁.setTop (mkF m 0 #[rv u0, iv (3 : Int32)] [])) t → Steps p.tables e below (s₁.setTop (entryFrame m #[(.ref u0), (.int (3 : Int32))] 2)) t := fun t k => castTop (ef_rmCF3_3 m u0 (3 : Int32)) k
  obtain ⟨cl1, Ar1, qq1, S1, N1_, H1, G1⟩ := id P_G_u0
  obtain ⟨fs, hr, hrun, hended, hW, hsame⟩ := X0.leave (v := some (.int (0 : Int32))) (fun h => by rw [Bd.returns] at h; cases h)
  refine ⟨_, _, pre0 _ ?_, hrun, hended, _, _, rfl, ?_, ⟨_, rfl⟩, hW, hsame.mono (by decide) (by decide)⟩
  · refine XS.iloadN X0.here hx rfl (hb hby d12_0) rfl ?_
    refine XS.aloadN X0.here hx rfl (hb hby d12_1) rfl rfl ?_
    refine X0.arraylength hx (by rw [e0]; exact Ar1.1) (State.isArrayOf_alike hZ.alike Ar1.2.1) (g := (mkF m 2 #[rv u0, iv (3 : Int32)] [(.ref u0), (.int (3 : Int32))])) rfl rfl (hb hby d12_2) _ ?_
    rw [len_of S1 N1_]
    refine XS.isub X0.here hx rfl (hb hby d12_3) rfl ?_
    refine XS.bipush X0.here hx rfl (hb hby d12_4) ?_
    refine XS.iushr X0.here hx rfl (hb hby d12_6) rfl ?_
    show Steps _ _ _ (s₁.setTop (mkF m 7 #[rv u0, iv (3 : Int32)] [(.int (((0 : Int32).toUInt32 >>> ((31 : Int32) &&& 31).toUInt32).toInt32))])) _
    rw [(by decide : (((0 : Int32).toUInt32 >>> ((31 : Int32) &&& 31).toUInt32).toInt32) = (0 : Int32))]
    refine XS.i2b X0.here hx rfl (hb hby d12_7) rfl ?_
    show Steps _ _ _ (s₁.setTop (mkF m 8 #[rv u0, iv (3 : Int32)] [(.int ((0 : Int32).toInt8.toInt32))])) _
    rw [(by decide : ((0 : Int32).toInt8.toInt32) = (0 : Int32))]
    show Steps _ _ _ (s₁.setTop (mkF m 8 #[rv u0, iv (3 : Int32)] [(.int (0 : Int32))])) _
    exact retN X0 hx (t := .byte) Bd.returns (by simp) (hb hby d12_8) hr
  · show own_QP (some (.int (0 : Int32))) h0 n0 _ s₁.heap _
    rw [e0]
    exact ⟨rfl, N0, rfl⟩

theorem ef_rmCF3_6 (m : MethodId) (x0 : Addr) (x1 : Int32) : entryFrame m #[(.ref x0), (.int x1)] 2 = mkF m 0 #[rv x0, iv x1] [] := by first | (simp [entryFrame, mkF, argsToLocals, Value.category]; done) | rfl
set_option maxRecDepth 65536 in
set_option maxHeartbeats 40000000 in
theorem rmCF3_6 (l : Launch) (Z : State) (a0 : Array Value) (hw : ∀ d ∈ tables_1, d.before a0 Z = true) (ws : List Jvm.Cond) (u0 : Addr) (kt : ClassId) (vs : List Value) (h0 : Heap) (n0 : Nat) (Z0 : n0 ≤ h0.size) (P_G_u0 : Arv Z h0 u0 kt .byte (6 : Int32) vs (.int 0)) :
    MetFree l own_y7 (head1 (Jvm.Cond.code own_y7 jdk_52_method_15_code 2 (some .byte) :: ws) ({ frames := 0, cells := 0, slots := 0, locals := 0 } : Room)) (fun a U => a = #[(.ref u0), (.int (3 : Int32))] ∧ Z.Warmed39 U.vm ∧ U.heap = h0) (fun _ _ _ _ _ => True) (fun _ U o U' => ∃ v L, o = .returned v ∧ own_QP (some (.int (1 : Int32))) h0 n0 v U'.heap L ∧ FrameEnd U o U' L ({ frames := 0, cells := 0, slots := 0, locals := 0 } : Room).cells ({ frames := 0, cells := 0, slots := 0, locals := 0 } : Room).slots) := by
  refine MetFree.of_bodySF (plainFor_of_name pn_12) hisR ?_
  intro p e s m args below meth c s₁ Bd hml0 hP hK
  obtain ⟨rfl, hZ, hh⟩ := hP
  have hx := Bd.exec
  have hby := Bd.bytes
  have hml : c.maxLocals = 2 := hml0
  have hown : s.vm.findClass "java/lang/StringUTF16" = some m.cls := findClass_of_methodNamed Bd.named
  have hnm := (name_of_methodNamed Bd.named Bd.method).1
  have X0 : Stand p l e ({ frames := 0, cells := 0, slots := 0, locals := 0 } : Room) s m #[(.ref u0), (.int (3 : Int32))] below meth c s₁ [] 0 0 := Stand.of_body Bd
  have e0 : s₁.heap = h0 := by rw [← hh, Bd.state]; rfl
  have N0 := Fr.nil n0
  have pre0 : ∀ t, Steps p.tables e below (s₁.setTop (mkF m 0 #[rv u0, iv (3 : Int32)] [])) t → Steps p.tables e below (s₁.setTop (entryFrame m #[(.ref u0), (.int (3 : Int32))] 2)) t := fun t k => castTop (ef_rmCF3_6 m u0 (3 : Int32)) k
  obtain ⟨cl1, Ar1, qq1, S1, N1_, H1, G1⟩ := id P_G_u0
  obtain ⟨fs, hr, hrun, hended, hW, hsame⟩ := X0.leave (v := some (.int (1 : Int32))) (fun h => by rw [Bd.returns] at h; cases h)
  refine ⟨_, _, pre0 _ ?_, hrun, hended, _, _, rfl, ?_, ⟨_, rfl⟩, hW, hsame.mono (by decide) (by decide)⟩
  · refine XS.iloadN X0.here hx rfl (hb hby d12_0) rfl ?_
    refine XS.aloadN X0.here hx rfl (hb hby d12_1) rfl rfl ?_
    refine X0.arraylength hx (by rw [e0]; exact Ar1.1) (State.isArrayOf_alike hZ.alike Ar1.2.1) (g := (mkF m 2 #[rv u0, iv (3 : Int32)] [(.ref u0), (.int (3 : Int32))])) rfl rfl (hb hby d12_2) _ ?_
    rw [len_of S1 N1_]
    refine XS.isub X0.here hx rfl (hb hby d12_3) rfl ?_
    refine XS.bipush X0.here hx rfl (hb hby d12_4) ?_
    refine XS.iushr X0.here hx rfl (hb hby d12_6) rfl ?_
    show Steps _ _ _ (s₁.setTop (mkF m 7 #[rv u0, iv (3 : Int32)] [(.int (((-3 : Int32).toUInt32 >>> ((31 : Int32) &&& 31).toUInt32).toInt32))])) _
    rw [(by decide : (((-3 : Int32).toUInt32 >>> ((31 : Int32) &&& 31).toUInt32).toInt32) = (1 : Int32))]
    refine XS.i2b X0.here hx rfl (hb hby d12_7) rfl ?_
    show Steps _ _ _ (s₁.setTop (mkF m 8 #[rv u0, iv (3 : Int32)] [(.int ((1 : Int32).toInt8.toInt32))])) _
    rw [(by decide : ((1 : Int32).toInt8.toInt32) = (1 : Int32))]
    show Steps _ _ _ (s₁.setTop (mkF m 8 #[rv u0, iv (3 : Int32)] [(.int (1 : Int32))])) _
    exact retN X0 hx (t := .byte) Bd.returns (by simp) (hb hby d12_8) hr
  · show own_QP (some (.int (1 : Int32))) h0 n0 _ s₁.heap _
    rw [e0]
    exact ⟨rfl, N0, rfl⟩

theorem ef_rmI4_3 (m : MethodId) (x0 : Addr) (x1 : Addr) (x2 : Int32) (x3 : Int32) : entryFrame m #[(.ref x0), (.ref x1), (.int x2), (.int x3), .null] 6 = mkF m 0 #[rv x0, rv x1, iv x2, iv x3, .val .null, .unset] [] := by first | (simp [entryFrame, mkF, argsToLocals, Value.category]; done) | rfl
def Q_rmI4_3 (Z : State) (u0 : Addr) (u1 : Addr) (kA : ClassId) (c0 : Int32) (c1 : Int32) (c2 : Int32) (zC : Int32) (h0 : Heap) (n0 : Nat) (v : Option Value) (h : Heap) (L : List Loc) : Prop := ∃ (t : Addr), ∃ (kt : ClassId), ∃ (z : Int32), ∃ (vs : List Value), ∃ (cd : Int32), (v = none ∧ Fr n0 L ∧ Keep h0 h [u0] ∧ h0.size ≤ t ∧ Exa Z h u0 "java/lang/String" ∧ Fld Z h u0 "java/lang/String" "value" "[B" (.ref t) ∧ Fld Z h u0 "java/lang/String" "coder" "B" (.int cd) ∧ Arv Z h t kt .byte z vs (.int 0) ∧ (z >>> (cd &&& 31)) = (3 : Int32) ∧ (cd = 0 ∨ cd = 1))
set_option maxRecDepth 65536 in
set_option maxHeartbeats 40000000 in
theorem rmI4_3 (l : Launch) (Z : State) (a0 : Array Value) (hw : ∀ d ∈ tables_1, d.before a0 Z = true) (ws : List Jvm.Cond) (u0 : Addr) (u1 : Addr) (kA : ClassId) (c0 : Int32) (c1 : Int32) (c2 : Int32) (zC : Int32) (h0 : Heap) (n0 : Nat) (Z0 : n0 ≤ h0.size) (P_E_u0 : Exa Z h0 u0 "java/lang/String") (P_F_u0_String_value : Fld Z h0 u0 "java/lang/String" "value" "[B" .null) (P_F_u0_String_coder : Fld Z h0 u0 "java/lang/String" "coder" "B" (.int (0 : Int32))) (P_V_u1 : Arv Z h0 u1 kA .char (3 : Int32) [(.int c0), (.int c1), (.int c2)] (.int (0 : Int32))) (neA : u0 ≠ u1) (hr0 : ¬ c0 < 0 ∧ ¬ (65535 : Int32) < c0) (hr1 : ¬ c1 < 0 ∧ ¬ (65535 : Int32) < c1) (hr2 : ¬ c2 < 0 ∧ ¬ (65535 : Int32) < c2) (P_S_StringUTF16__assertionsDisabled : Sta Z h0 "java/lang/StringUTF16" "$assertionsDisabled" "Z" (.int (1 : Int32))) (P_S_StringUTF16_HI_BYTE_SHIFT : Sta Z h0 "java/lang/StringUTF16" "HI_BYTE_SHIFT" "I" (.int (0 : Int32))) (P_S_StringUTF16_LO_BYTE_SHIFT : Sta Z h0 "java/lang/StringUTF16" "LO_BYTE_SHIFT" "I" (.int (8 : Int32))) (P_S_String_COMPACT_STRINGS : Sta Z h0 "java/lang/String" "COMPACT_STRINGS" "Z" (.int zC)) (hz : ¬ (zC = (0 : Int32))) (g_u0 : n0 ≤ u0) :
    MetFree l own_y8 (head1 (Jvm.Cond.code own_y8 jdk_42_method_149_code 6 none :: ws) ({ frames := 4, cells := 2, slots := 9, locals := 57 } : Room)) (fun a U => a = #[(.ref u0), (.ref u1), (.int (0 : Int32)), (.int (3 : Int32)), .null] ∧ Z.Warmed39 U.vm ∧ U.heap = h0) (fun _ _ _ _ _ => True) (fun _ U o U' => ∃ v L, o = .returned v ∧ Q_rmI4_3 Z u0 u1 kA c0 c1 c2 zC h0 n0 v U'.heap L ∧ FrameEnd U o U' L ({ frames := 4, cells := 2, slots := 9, locals := 57 } : Room).cells ({ frames := 4, cells := 2, slots := 9, locals := 57 } : Room).slots) := by
  refine MetFree.of_bodySF (plainFor_of_name pn_3) hisR ?_
  intro p e s m args below meth c s₁ Bd hml0 hP hK
  obtain ⟨rfl, hZ, hh⟩ := hP
  have hx := Bd.exec
  have hby := Bd.bytes
  have hml : c.maxLocals = 6 := hml0
  have hown : s.vm.findClass "java/lang/String" = some m.cls := findClass_of_methodNamed Bd.named
  have hnm := (name_of_methodNamed Bd.named Bd.method).1
  have X0 : Stand p l e ({ frames := 4, cells := 2, slots := 9, locals := 57 } : Room) s m #[(.ref u0), (.ref u1), (.int (0 : Int32)), (.int (3 : Int32)), .null] below meth c s₁ [] 0 0 := Stand.of_body Bd
  have e0 : s₁.heap = h0 := by rw [← hh, Bd.state]; rfl
  have N0 := Fr.nil n0
  have pre0 : ∀ t, Steps p.tables e below (s₁.setTop (mkF m 0 #[rv u0, rv u1, iv (0 : Int32), iv (3 : Int32), .val .null, .unset] [])) t → Steps p.tables e below (s₁.setTop (entryFrame m #[(.ref u0), (.ref u1), (.int (0 : Int32)), (.int (3 : Int32)), .null] 6)) t := fun t k => castTop (ef_rmI4_3 m u0 u1 (0 : Int32) (3 : Int32)) k
  obtain ⟨T1, X1, e1, st1⟩ := initO X0 hx hZ hown (own_g hw 17 rfl) (own_g hw 18 rfl) (own_g hw 19 rfl) e0 (g := (mkF m 1 #[rv u0, rv u1, iv (0 : Int32), iv (3 : Int32), .val .null, .unset] [(.ref u0)])) rfl (by rw [hml]; rfl) rfl (hb hby d3_1) (by decide) (W := 0) (by show 2 * 0 + _ ≤ _; exact Nat.le_of_eq rfl) (by decide)
  obtain ⟨T2, X2, e2, st2⟩ := getS2 X1 hx hZ hown (host := "") (Or.inl (own_g hw 20 rfl)) Via.refl e1 P_S_String_COMPACT_STRINGS (g := (mkF m 27 #[rv u0, rv u1, iv (0 : Int32), iv (3 : Int32), .val .null, .unset] [])) rfl (hb hby d3_27)
  obtain ⟨_, _, ⟨T3, L3, k3, n3⟩, -, X3, ⟨Lc3, hQ3, l3, y3, z3⟩, st3⟩ := Jvm.LawKit.callS X2 hx (y := own_y6) hown (mvT hZ (own_g hw 21 rfl)) (mvT hZ (own_g hw 22 rfl)) (mvT hZ (own_g hw 23 rfl)) (mvT hZ (own_g hw 24 rfl)) (by decide) (backOf (W := 0) (rmC3_3 l Z a0 hw [] u1 kA c0 c1 c2 h0 n0 Z0 P_S_StringUTF16__assertionsDisabled P_S_StringUTF16_HI_BYTE_SHIFT P_S_StringUTF16_LO_BYTE_SHIFT P_V_u1 hr0 hr1 hr2) hZ (own_g hw 24 rfl) (own_g hw 23 rfl) (by decide) (by decide)) (g := (mkF m 36 #[rv u0, rv u1, iv (0 : Int32), iv (3 : Int32), .val .null, .unset] [(.int (3 : Int32)), (.int (0 : Int32)), (.ref u1)])) rfl (by rw [hml]; rfl) (argsL := [(.ref u1), (.int (0 : Int32)), (.int (3 : Int32))]) (rest := []) (lenOf pd___CII__B rfl) rfl (by show 2 * 0 + _ ≤ _; exact Nat.le_of_eq rfl) (hb hby d3_36) (fun _ _ => ⟨rfl, e2, (by decide : 0 + 2 ≤ _), (by decide : 0 + 9 ≤ _)⟩)
  dsimp only [Pt.U, Pt.locs, Pt.cells, Pt.slots] at X3 l3 y3 z3 st3 hQ3
  subst l3 y3 z3
  obtain ⟨t_3, kt_3, z_3, vs_3, rfl, N3q, K3, sx3_0, f4, f5⟩ := hQ3
  have ot_3 : n0 ≤ t_3 := Nat.le_trans Z0 sx3_0
  have zt_3 : h0.size ≤ t_3 := Nat.le_trans (Keep.refl h0 [u0]).1 sx3_0
  have ne6 : u0 ≠ t_3 := Nat.ne_of_lt (Nat.lt_of_lt_of_le P_E_u0.lt sx3_0)
  have ne7 : u1 ≠ t_3 := Nat.ne_of_lt (Nat.lt_of_lt_of_le P_V_u1.lt sx3_0)
  have KK3 : Keep h0 T3.heap [u0] := Keep.trans (Keep.refl h0 [u0]) K3 all0
  have N3 := Fr.app N0 N3q
  have pre8 : ∀ t, Steps p.tables e below (T3.setTop (mkF m 39 #[rv u0, rv u1, iv (0 : Int32), iv (3 : Int32), .val .null, .unset] [(.ref t_3)])) t → Steps p.tables e below (s₁.setTop (entryFrame m #[(.ref u0), (.ref u1), (.int (0 : Int32)), (.int (3 : Int32)), .null] 6)) t := fun t kt => pre0 t (by
   refine XS.aloadN X0.here hx rfl (hb hby d3_0) rfl rfl ?_
   show Steps _ _ _ (s₁.setTop (mkF m 1 #[rv u0, rv u1, iv (0 : Int32), iv (3 : Int32), .val .null, .unset] [(.ref u0)])) _
   refine st1 _ ?_
   refine XS.iloadN X1.here hx rfl (hb hby d3_4) rfl ?_
   refine XS.ifYes X1.here hx rfl (pc0 := 5) (pc' := 27) rfl (hb hby d3_5) rfl ((if0 _ _).trans (feq (by decide : ¬ ((3 : Int32) = (0 : Int32)))).2) (by decide) (by decide) ?_
   refine st2 _ ?_
   refine XS.ifNo X2.here hx rfl (hb hby d3_30) rfl ((if0 _ _).trans (feq hz).1) ?_
   refine XS.aloadN X2.here hx rfl (hb hby d3_33) rfl rfl ?_
   refine XS.iloadN X2.here hx rfl (hb hby d3_34) rfl ?_
   refine XS.iloadN X2.here hx rfl (hb hby d3_35) rfl ?_
   show Steps _ _ _ (T2.setTop (mkF m 36 #[rv u0, rv u1, iv (0 : Int32), iv (3 : Int32), .val .null, .unset] [(.int (3 : Int32)), (.int (0 : Int32)), (.ref u1)])) _
   refine st3 _ ?_
   exact kt)
  rcases f5 with hd_ | hd_
  · subst hd_
    have f9 : n0 ≤ T3.heap.size := (Nat.le_trans Z0 K3.1)
    obtain ⟨_, _, ⟨T10, L10, k10, n10⟩, -, X10, ⟨Lc10, hQ10, l10, y10, z10⟩, st10⟩ := Jvm.LawKit.callS X3 hx (y := own_y7) hown (mvT hZ (own_g hw 48 rfl)) (mvT hZ (own_g hw 49 rfl)) (mvT hZ (own_g hw 23 rfl)) (mvT hZ (own_g hw 50 rfl)) (by decide) (backOf (W := 1) (rmCF3_3 l Z a0 hw [] t_3 kt_3 vs_3 T3.heap n0 f9 f4) hZ (own_g hw 50 rfl) (own_g hw 23 rfl) (by decide) (by decide)) (g := (mkF m 45 #[rv u0, rv u1, iv (0 : Int32), iv (3 : Int32), .val .null, rv t_3] [(.int (3 : Int32)), (.ref t_3), (.ref u0)])) rfl (by rw [hml]; rfl) (argsL := [(.ref t_3), (.int (3 : Int32))]) (rest := [(.ref u0)]) (lenOf pd___BI_B rfl) rfl (by show 2 * 0 + _ ≤ _; exact Nat.le_of_eq rfl) (hb hby d3_45) (fun _ _ => ⟨rfl, rfl, (by decide : 2 + 0 ≤ _), (by decide : 9 + 0 ≤ _)⟩)
    dsimp only [Pt.U, Pt.locs, Pt.cells, Pt.slots] at X10 l10 y10 z10 st10 hQ10
    subst l10 y10 z10
    obtain ⟨rfl, N10q, e10⟩ := hQ10
    have N10 := Fr.app N3 N10q
    have f11 : Exa Z T3.heap u0 "java/lang/String" := (P_E_u0.keep K3)
    have f12 : Fld Z T3.heap u0 "java/lang/String" "coder" "B" (.int (0 : Int32)) := (P_F_u0_String_coder.keep K3 nin0)
    obtain ⟨T13, h13, X13, e13, W13, st13⟩ := putFN X10 hx hZ hown (own_g hw 51 rfl) Via.refl e10 f12 f11 (Or.inr ⟨(own_g hw 52 rfl), rfl, hnm⟩) (own_g hw 7 rfl) (ty := .byte) (v' := (.int (0 : Int32))) (by decide) rfl rfl (g := (mkF m 48 #[rv u0, rv u1, iv (0 : Int32), iv (3 : Int32), .val .null, rv t_3] [(.int (0 : Int32)), (.ref u0)])) rfl rfl (hb hby d3_48)
    have f13_ : Fld Z h13 u0 "java/lang/String" "coder" "B" (.int (0 : Int32)) := f12.same W13
    have N14 := Fr.snoc X13 N10 g_u0
    have K15 : Keep h0 h13 [u0] := KK3.wr W13 (Or.inl (List.mem_of_getElem? (i := 0) rfl))
    have f16 : Exa Z h13 u0 "java/lang/String" := (f11.wr W13)
    have f17 : Fld Z h13 u0 "java/lang/String" "value" "[B" .null := ((P_F_u0_String_value.keep K3 nin0).other W13 (Or.inr (slot_ne (Or.inr (own_g hw 54 rfl)) (Or.inr (own_g hw 52 rfl)) (by decide) (t := (.array .byte)) (t' := .byte) (by decide) (by decide))))
    obtain ⟨T18, h18, X18, e18, W18, st18⟩ := putF X13 hx hZ hown (host := "") (Or.inl (own_g hw 53 rfl)) Via.refl e13 f17 f16 (Or.inr ⟨(own_g hw 54 rfl), rfl, hnm⟩) (own_g hw 7 rfl) (ty := (.array .byte)) (by decide) rfl rfl (g := (mkF m 54 #[rv u0, rv u1, iv (0 : Int32), iv (3 : Int32), .val .null, rv t_3] [(.ref t_3), (.ref u0)])) rfl rfl (hb hby d3_54)
    have f18_ : Fld Z h18 u0 "java/lang/String" "value" "[B" (.ref t_3) := f17.same W18
    have N19 := Fr.snoc X18 N14 g_u0
    have K20 : Keep h0 h18 [u0] := K15.wr W18 (Or.inl (List.mem_of_getElem? (i := 0) rfl))
    obtain ⟨fs, hr, hrun, hended, hW, hsame⟩ := X18.leave (v := none) (fun _ => rfl)
    have f21 : Exa Z h18 u0 "java/lang/String" := (f16.wr W18)
    have f22 : Fld Z h18 u0 "java/lang/String" "coder" "B" (.int (0 : Int32)) := (f13_.other W18 (Or.inr (slot_ne (Or.inr (own_g hw 52 rfl)) (Or.inr (own_g hw 54 rfl)) (by decide) (t := .byte) (t' := (.array .byte)) (by decide) (by decide))))
    have f23 : Arv Z h18 t_3 kt_3 .byte (3 : Int32) vs_3 (.int 0) := ((f4.other W13 (Ne.symm ne6)).other W18 (Ne.symm ne6))
    refine ⟨_, _, pre8 _ ?_, hrun, hended, _, _, rfl, ?_, ⟨_, rfl⟩, hW, hsame.mono (by decide) (by decide)⟩
    · refine XS.astore X3.here hx rfl (hb hby d3_39) rfl rfl (l' := #[rv u0, rv u1, iv (0 : Int32), iv (3 : Int32), .val .null, rv t_3]) rfl ?_
      refine XS.aloadN X3.here hx rfl (hb hby d3_41) rfl rfl ?_
      refine XS.aload X3.here hx rfl (hb hby d3_42) rfl rfl ?_
      refine XS.iloadN X3.here hx rfl (hb hby d3_44) rfl ?_
      show Steps _ _ _ (T3.setTop (mkF m 45 #[rv u0, rv u1, iv (0 : Int32), iv (3 : Int32), .val .null, rv t_3] [(.int (3 : Int32)), (.ref t_3), (.ref u0)])) _
      refine st10 _ ?_
      refine st13 _ ?_
      refine XS.aloadN X13.here hx rfl (hb hby d3_51) rfl rfl ?_
      refine XS.aload X13.here hx rfl (hb hby d3_52) rfl rfl ?_
      refine st18 _ ?_
      show Steps _ _ _ (T18.setTop (mkF m 57 #[rv u0, rv u1, iv (0 : Int32), iv (3 : Int32), .val .null, rv t_3] [])) _
      exact X18.returnOut hx Bd.returns (hb hby d3_57) hr
    · show Q_rmI4_3 Z u0 u1 kA c0 c1 c2 zC h0 n0 _ T18.heap _
      rw [e18]
      exact ⟨t_3, kt_3, (3 : Int32), vs_3, (0 : Int32), rfl, N19, K20, zt_3, f21, f18_, f22, f23, (by decide), (by decide)⟩
  · subst hd_
    have f24 : n0 ≤ T3.heap.size := (Nat.le_trans Z0 K3.1)
    obtain ⟨_, _, ⟨T25, L25, k25, n25⟩, -, X25, ⟨Lc25, hQ25, l25, y25, z25⟩, st25⟩ := Jvm.LawKit.callS X3 hx (y := own_y7) hown (mvT hZ (own_g hw 48 rfl)) (mvT hZ (own_g hw 49 rfl)) (mvT hZ (own_g hw 23 rfl)) (mvT hZ (own_g hw 50 rfl)) (by decide) (backOf (W := 1) (rmCF3_6 l Z a0 hw [] t_3 kt_3 vs_3 T3.heap n0 f24 f4) hZ (own_g hw 50 rfl) (own_g hw 23 rfl) (by decide) (by decide)) (g := (mkF m 45 #[rv u0, rv u1, iv (0 : Int32), iv (3 : Int32), .val .null, rv t_3] [(.int (3 : Int32)), (.ref t_3), (.ref u0)])) rfl (by rw [hml]; rfl) (argsL := [(.ref t_3), (.int (3 : Int32))]) (rest := [(.ref u0)]) (lenOf pd___BI_B rfl) rfl (by show 2 * 0 + _ ≤ _; exact Nat.le_of_eq rfl) (hb hby d3_45) (fun _ _ => ⟨rfl, rfl, (by decide : 2 + 0 ≤ _), (by decide : 9 + 0 ≤ _)⟩)
    dsimp only [Pt.U, Pt.locs, Pt.cells, Pt.slots] at X25 l25 y25 z25 st25 hQ25
    subst l25 y25 z25
    obtain ⟨rfl, N25q, e25⟩ := hQ25
    have N25 := Fr.app N3 N25q
    have f26 : Exa Z T3.heap u0 "java/lang/String" := (P_E_u0.keep K3)
    have f27 : Fld Z T3.heap u0 "java/lang/String" "coder" "B" (.int (0 : Int32)) := (P_F_u0_String_coder.keep K3 nin0)
    obtain ⟨T28, h28, X28, e28, W28, st28⟩ := putFN X25 hx hZ hown (own_g hw 51 rfl) Via.refl e25 f27 f26 (Or.inr ⟨(own_g hw 52 rfl), rfl, hnm⟩) (own_g hw 7 rfl) (ty := .byte) (v' := (.int (1 : Int32))) (by decide) rfl rfl (g := (mkF m 48 #[rv u0, rv u1, iv (0 : Int32), iv (3 : Int32), .val .null, rv t_3] [(.int (1 : Int32)), (.ref u0)])) rfl rfl (hb hby d3_48)
    have f28_ : Fld Z h28 u0 "java/lang/String" "coder" "B" (.int (1 : Int32)) := f27.same W28
    have N29 := Fr.snoc X28 N25 g_u0
    have K30 : Keep h0 h28 [u0] := KK3.wr W28 (Or.inl (List.mem_of_getElem? (i := 0) rfl))
    have f31 : Exa Z h28 u0 "java/lang/String" := (f26.wr W28)
    have f32 : Fld Z h28 u0 "java/lang/String" "value" "[B" .null := ((P_F_u0_String_value.keep K3 nin0).other W28 (Or.inr (slot_ne (Or.inr (own_g hw 54 rfl)) (Or.inr (own_g hw 52 rfl)) (by decide) (t := (.array .byte)) (t' := .byte) (by decide) (by decide))))
    obtain ⟨T33, h33, X33, e33, W33, st33⟩ := putF X28 hx hZ hown (host := "") (Or.inl (own_g hw 53 rfl)) Via.refl e28 f32 f31 (Or.inr ⟨(own_g hw 54 rfl), rfl, hnm⟩) (own_g hw 7 rfl) (ty := (.array .byte)) (by decide) rfl rfl (g := (mkF m 54 #[rv u0, rv u1, iv (0 : Int32), iv (3 : Int32), .val .null, rv t_3] [(.ref t_3), (.ref u0)])) rfl rfl (hb hby d3_54)
    have f33_ : Fld Z h33 u0 "java/lang/String" "value" "[B" (.ref t_3) := f32.same W33
    have N34 := Fr.snoc X33 N29 g_u0
    have K35 : Keep h0 h33 [u0] := K30.wr W33 (Or.inl (List.mem_of_getElem? (i := 0) rfl))
    obtain ⟨fs, hr, hrun, hended, hW, hsame⟩ := X33.leave (v := none) (fun _ => rfl)
    have f36 : Exa Z h33 u0 "java/lang/String" := (f31.wr W33)
    have f37 : Fld Z h33 u0 "java/lang/String" "coder" "B" (.int (1 : Int32)) := (f28_.other W33 (Or.inr (slot_ne (Or.inr (own_g hw 52 rfl)) (Or.inr (own_g hw 54 rfl)) (by decide) (t := .byte) (t' := (.array .byte)) (by decide) (by decide))))
    have f38 : Arv Z h33 t_3 kt_3 .byte (6 : Int32) vs_3 (.int 0) := ((f4.other W28 (Ne.symm ne6)).other W33 (Ne.symm ne6))
    refine ⟨_, _, pre8 _ ?_, hrun, hended, _, _, rfl, ?_, ⟨_, rfl⟩, hW, hsame.mono (by decide) (by decide)⟩
    · refine XS.astore X3.here hx rfl (hb hby d3_39) rfl rfl (l' := #[rv u0, rv u1, iv (0 : Int32), iv (3 : Int32), .val .null, rv t_3]) rfl ?_
      refine XS.aloadN X3.here hx rfl (hb hby d3_41) rfl rfl ?_
      refine XS.aload X3.here hx rfl (hb hby d3_42) rfl rfl ?_
      refine XS.iloadN X3.here hx rfl (hb hby d3_44) rfl ?_
      show Steps _ _ _ (T3.setTop (mkF m 45 #[rv u0, rv u1, iv (0 : Int32), iv (3 : Int32), .val .null, rv t_3] [(.int (3 : Int32)), (.ref t_3), (.ref u0)])) _
      refine st25 _ ?_
      refine st28 _ ?_
      refine XS.aloadN X28.here hx rfl (hb hby d3_51) rfl rfl ?_
      refine XS.aload X28.here hx rfl (hb hby d3_52) rfl rfl ?_
      show Steps _ _ _ (T28.setTop (mkF m 54 #[rv u0, rv u1, iv (0 : Int32), iv (3 : Int32), .val .null, rv t_3] [(.ref t_3), (.ref u0)])) _
      refine st33 _ ?_
      show Steps _ _ _ (T33.setTop (mkF m 57 #[rv u0, rv u1, iv (0 : Int32), iv (3 : Int32), .val .null, rv t_3] [])) _
      exact X33.returnOut hx Bd.returns (hb hby d3_57) hr
    · show Q_rmI4_3 Z u0 u1 kA c0 c1 c2 zC h0 n0 _ T33.heap _
      rw [e33]
      exact ⟨t_3, kt_3, (6 : Int32), vs_3, (1 : Int32), rfl, N34, K35, zt_3, f36, f33_, f37, f38, (by decide), (by decide)⟩

theorem ef_rmI1_3 (m : MethodId) (x0 : Addr) (x1 : Addr) : entryFrame m #[(.ref x0), (.ref x1)] 2 = mkF m 0 #[rv x0, rv x1] [] := by first | (simp [entryFrame, mkF, argsToLocals, Value.category]; done) | rfl
def Q_rmI1_3 (Z : State) (u0 : Addr) (u1 : Addr) (kA : ClassId) (c0 : Int32) (c1 : Int32) (c2 : Int32) (zC : Int32) (h0 : Heap) (n0 : Nat) (v : Option Value) (h : Heap) (L : List Loc) : Prop := ∃ (t : Addr), ∃ (kt : ClassId), ∃ (z : Int32), ∃ (vs : List Value), ∃ (cd : Int32), (v = none ∧ Fr n0 L ∧ Keep h0 h [u0] ∧ h0.size ≤ t ∧ Exa Z h u0 "java/lang/String" ∧ Fld Z h u0 "java/lang/String" "value" "[B" (.ref t) ∧ Fld Z h u0 "java/lang/String" "coder" "B" (.int cd) ∧ Arv Z h t kt .byte z vs (.int 0) ∧ (z >>> (cd &&& 31)) = (3 : Int32) ∧ (cd = 0 ∨ cd = 1))
set_option maxRecDepth 65536 in
set_option maxHeartbeats 40000000 in
theorem rmI1_3 (l : Launch) (Z : State) (a0 : Array Value) (hw : ∀ d ∈ tables_1, d.before a0 Z = true) (ws : List Jvm.Cond) (u0 : Addr) (u1 : Addr) (kA : ClassId) (c0 : Int32) (c1 : Int32) (c2 : Int32) (zC : Int32) (h0 : Heap) (n0 : Nat) (Z0 : n0 ≤ h0.size) (P_E_u0 : Exa Z h0 u0 "java/lang/String") (P_F_u0_String_value : Fld Z h0 u0 "java/lang/String" "value" "[B" .null) (P_F_u0_String_coder : Fld Z h0 u0 "java/lang/String" "coder" "B" (.int (0 : Int32))) (P_V_u1 : Arv Z h0 u1 kA .char (3 : Int32) [(.int c0), (.int c1), (.int c2)] (.int (0 : Int32))) (neA : u0 ≠ u1) (hr0 : ¬ c0 < 0 ∧ ¬ (65535 : Int32) < c0) (hr1 : ¬ c1 < 0 ∧ ¬ (65535 : Int32) < c1) (hr2 : ¬ c2 < 0 ∧ ¬ (65535 : Int32) < c2) (P_S_StringUTF16__assertionsDisabled : Sta Z h0 "java/lang/StringUTF16" "$assertionsDisabled" "Z" (.int (1 : Int32))) (P_S_StringUTF16_HI_BYTE_SHIFT : Sta Z h0 "java/lang/StringUTF16" "HI_BYTE_SHIFT" "I" (.int (0 : Int32))) (P_S_StringUTF16_LO_BYTE_SHIFT : Sta Z h0 "java/lang/StringUTF16" "LO_BYTE_SHIFT" "I" (.int (8 : Int32))) (P_S_String_COMPACT_STRINGS : Sta Z h0 "java/lang/String" "COMPACT_STRINGS" "Z" (.int zC)) (hz : ¬ (zC = (0 : Int32))) (g_u0 : n0 ≤ u0) :
    MetFree l own_y9 (head1 (Jvm.Cond.code own_y9 jdk_42_method_3_code 2 none :: ws) ({ frames := 5, cells := 2, slots := 9, locals := 74 } : Room)) (fun a U => a = #[(.ref u0), (.ref u1)] ∧ Z.Warmed39 U.vm ∧ U.heap = h0) (fun _ _ _ _ _ => True) (fun _ U o U' => ∃ v L, o = .returned v ∧ Q_rmI1_3 Z u0 u1 kA c0 c1 c2 zC h0 n0 v U'.heap L ∧ FrameEnd U o U' L ({ frames := 5, cells := 2, slots := 9, locals := 74 } : Room).cells ({ frames := 5, cells := 2, slots := 9, locals := 74 } : Room).slots) := by
  refine MetFree.of_bodySF (plainFor_of_name pn_2) hisR ?_
  intro p e s m args below meth c s₁ Bd hml0 hP hK
  obtain ⟨rfl, hZ, hh⟩ := hP
  have hx := Bd.exec
  have hby := Bd.bytes
  have hml : c.maxLocals = 2 := hml0
  have hown : s.vm.findClass "java/lang/String" = some m.cls := findClass_of_methodNamed Bd.named
  have hnm := (name_of_methodNamed Bd.named Bd.method).1
  have X0 : Stand p l e ({ frames := 5, cells := 2, slots := 9, locals := 74 } : Room) s m #[(.ref u0), (.ref u1)] below meth c s₁ [] 0 0 := Stand.of_body Bd
  have e0 : s₁.heap = h0 := by rw [← hh, Bd.state]; rfl
  have N0 := Fr.nil n0
  have pre0 : ∀ t, Steps p.tables e below (s₁.setTop (mkF m 0 #[rv u0, rv u1] [])) t → Steps p.tables e below (s₁.setTop (entryFrame m #[(.ref u0), (.ref u1)] 2)) t := fun t k => castTop (ef_rmI1_3 m u0 u1) k
  obtain ⟨cl1, Ar1, qq1, S1, N1_, H1, G1⟩ := id P_V_u1
  obtain ⟨_, _, ⟨T2, L2, k2, n2⟩, -, X2, ⟨Lc2, hQ2, l2, y2, z2⟩, st2⟩ := X0.specialBack hx (y := own_y8) rfl hown (mvT hZ (own_g hw 13 rfl)) (mvT hZ (own_g hw 14 rfl)) (mvT hZ (own_g hw 16 rfl)) (by decide) (backOf (W := 0) (rmI4_3 l Z a0 hw [] u0 u1 kA c0 c1 c2 zC h0 n0 Z0 P_E_u0 P_F_u0_String_value P_F_u0_String_coder P_V_u1 neA hr0 hr1 hr2 P_S_StringUTF16__assertionsDisabled P_S_StringUTF16_HI_BYTE_SHIFT P_S_StringUTF16_LO_BYTE_SHIFT P_S_String_COMPACT_STRINGS hz g_u0) hZ (own_g hw 16 rfl) (own_g hw 8 rfl) (by decide) (by decide)) (g := (mkF m 6 #[rv u0, rv u1] [.null, (.int (3 : Int32)), (.int (0 : Int32)), (.ref u1), (.ref u0)])) rfl (by rw [hml]; rfl) (Steps.refl _) (a := u0) (argsL := [(.ref u1), (.int (0 : Int32)), (.int (3 : Int32)), .null]) (rest := []) (lenOf pd___CIILjava_lang_Void__V rfl) rfl (by show 2 * 0 + _ ≤ _; exact Nat.le_of_eq rfl) (hb hby d2_6) (fun _ _ => ⟨rfl, e0, (by decide : 0 + 2 ≤ _), (by decide : 0 + 9 ≤ _)⟩)
  dsimp only [Pt.U, Pt.locs, Pt.cells, Pt.slots] at X2 l2 y2 z2 st2 hQ2
  subst l2 y2 z2
  obtain ⟨t_2, kt_2, z_2, vs_2, cd_2, rfl, N2q, K2, sx2_0, f3, f4, f5, f6, f7, f8⟩ := hQ2
  have ot_2 : n0 ≤ t_2 := Nat.le_trans Z0 sx2_0
  have zt_2 : h0.size ≤ t_2 := Nat.le_trans (Keep.refl h0 [u0]).1 sx2_0
  have ne9 : u0 ≠ t_2 := Nat.ne_of_lt (Nat.lt_of_lt_of_le P_E_u0.lt sx2_0)
  have ne10 : u1 ≠ t_2 := Nat.ne_of_lt (Nat.lt_of_lt_of_le P_V_u1.lt sx2_0)
  have KK2 : Keep h0 T2.heap [u0] := Keep.trans (Keep.refl h0 [u0]) K2 (allS (Or.inl (List.mem_of_getElem? (i := 0) rfl)) all0)
  have N2 := Fr.app N0 N2q
  obtain ⟨fs, hr, hrun, hended, hW, hsame⟩ := X2.leave (v := none) (fun _ => rfl)
  refine ⟨_, _, pre0 _ ?_, hrun, hended, _, _, rfl, ?_, ⟨_, rfl⟩, hW, hsame.mono (by decide) (by decide)⟩
  · refine XS.aloadN X0.here hx rfl (hb hby d2_0) rfl rfl ?_
    refine XS.aloadN X0.here hx rfl (hb hby d2_1) rfl rfl ?_
    refine XS.iconst X0.here hx rfl (hb hby d2_2) ?_
    refine XS.aloadN X0.here hx rfl (hb hby d2_3) rfl rfl ?_
    refine X0.arraylength hx (by rw [e0]; exact Ar1.1) (State.isArrayOf_alike hZ.alike Ar1.2.1) (g := (mkF m 4 #[rv u0, rv u1] [(.ref u1), (.int (0 : Int32)), (.ref u1), (.ref u0)])) rfl rfl (hb hby d2_4) _ ?_
    rw [len_of S1 N1_]
    refine XS.aconstNull X0.here hx rfl (hb hby d2_5) ?_
    show Steps _ _ _ (s₁.setTop (mkF m 6 #[rv u0, rv u1] [.null, (.int (3 : Int32)), (.int (0 : Int32)), (.ref u1), (.ref u0)])) _
    refine st2.trans ?_
    show Steps _ _ _ (T2.setTop (mkF m 9 #[rv u0, rv u1] [])) _
    exact X2.returnOut hx Bd.returns (hb hby d2_9) hr
  · show Q_rmI1_3 Z u0 u1 kA c0 c1 c2 zC h0 n0 _ T2.heap _
    exact ⟨t_2, kt_2, z_2, vs_2, cd_2, rfl, N2, KK2, zt_2, f3, f4, f5, f6, f7, f8⟩

theorem ef_rmMk_3 (m : MethodId) (x0 : Int32) (x1 : Int32) (x2 : Int32) (x3 : Int32) (x4 : Int32) : entryFrame m #[(.int x0), (.int x1), (.int x2), (.int x3), (.int x4)] 5 = mkF m 0 #[iv x0, iv x1, iv x2, iv x3, iv x4] [] := by first | (simp [entryFrame, mkF, argsToLocals, Value.category]; done) | rfl
def Q_rmMk_3 (Z : State) (p1 : Int32) (p2 : Int32) (p3 : Int32) (p4 : Int32) (zC : Int32) (h0 : Heap) (n0 : Nat) (v : Option Value) (h : Heap) (L : List Loc) : Prop := ∃ (sg : Addr), ∃ (t : Addr), ∃ (kt : ClassId), ∃ (z : Int32), ∃ (vs : List Value), ∃ (cd : Int32), (v = (some (.ref sg)) ∧ Fr n0 L ∧ Keep h0 h [] ∧ h0.size ≤ sg ∧ h0.size ≤ t ∧ sg ≠ t ∧ Exa Z h sg "java/lang/String" ∧ Fld Z h sg "java/lang/String" "value" "[B" (.ref t) ∧ Fld Z h sg "java/lang/String" "coder" "B" (.int cd) ∧ Arv Z h t kt .byte z vs (.int 0) ∧ (z >>> (cd &&& 31)) = (3 : Int32) ∧ (cd = 0 ∨ cd = 1))
set_option maxRecDepth 65536 in
set_option maxHeartbeats 40000000 in
theorem rmMk_3 (l : Launch) (Z : State) (a0 : Array Value) (hw : ∀ d ∈ tables_1, d.before a0 Z = true) (ws : List Jvm.Cond) (p1 : Int32) (p2 : Int32) (p3 : Int32) (p4 : Int32) (zC : Int32) (h0 : Heap) (n0 : Nat) (Z0 : n0 ≤ h0.size) (P_S_StringUTF16__assertionsDisabled : Sta Z h0 "java/lang/StringUTF16" "$assertionsDisabled" "Z" (.int (1 : Int32))) (P_S_StringUTF16_HI_BYTE_SHIFT : Sta Z h0 "java/lang/StringUTF16" "HI_BYTE_SHIFT" "I" (.int (0 : Int32))) (P_S_StringUTF16_LO_BYTE_SHIFT : Sta Z h0 "java/lang/StringUTF16" "LO_BYTE_SHIFT" "I" (.int (8 : Int32))) (P_S_String_COMPACT_STRINGS : Sta Z h0 "java/lang/String" "COMPACT_STRINGS" "Z" (.int zC)) (hz : ¬ (zC = (0 : Int32))) :
    MetFree l own_y10 (head1 (Jvm.Cond.code own_y10 method_3_code 5 (some (.object "java/lang/String")) :: ws) ({ frames := 6, cells := 4, slots := 16, locals := 88 } : Room)) (fun a U => a = #[(.int (3 : Int32)), (.int p1), (.int p2), (.int p3), (.int p4)] ∧ Z.Warmed39 U.vm ∧ U.heap = h0) (fun _ _ _ _ _ => True) (fun _ U o U' => ∃ v L, o = .returned v ∧ Q_rmMk_3 Z p1 p2 p3 p4 zC h0 n0 v U'.heap L ∧ FrameEnd U o U' L ({ frames := 6, cells := 4, slots := 16, locals := 88 } : Room).cells ({ frames := 6, cells := 4, slots := 16, locals := 88 } : Room).slots) := by
  refine MetFree.of_bodySF (plainFor_of_name pn_1) hisR ?_
  intro p e s m args below meth c s₁ Bd hml0 hP hK
  obtain ⟨rfl, hZ, hh⟩ := hP
  have hx := Bd.exec
  have hby := Bd.bytes
  have hml : c.maxLocals = 5 := hml0
  have hown : s.vm.findClass "com/example/apq/apq/jpql/TokenEndPinLaw" = some m.cls := findClass_of_methodNamed Bd.named
  have hnm := (name_of_methodNamed Bd.named Bd.method).1
  have X0 : Stand p l e ({ frames := 6, cells := 4, slots := 16, locals := 88 } : Room) s m #[(.int (3 : Int32)), (.int p1), (.int p2), (.int p3), (.int p4)] below meth c s₁ [] 0 0 := Stand.of_body Bd
  have e0 : s₁.heap = h0 := by rw [← hh, Bd.state]; rfl
  have N0 := Fr.nil n0
  have pre0 : ∀ t, Steps p.tables e below (s₁.setTop (mkF m 0 #[iv (3 : Int32), iv p1, iv p2, iv p3, iv p4] [])) t → Steps p.tables e below (s₁.setTop (entryFrame m #[(.int (3 : Int32)), (.int p1), (.int p2), (.int p3), (.int p4)] 5)) t := fun t k => castTop (ef_rmMk_3 m (3 : Int32) p1 p2 p3 p4) k
  obtain ⟨T1, h1, X1, e1, E1, A1, D1, U1, st1⟩ := newO X0 hx hZ hown (own_g hw 6 rfl) (own_g hw 7 rfl) (own_g hw 8 rfl) e0 (g := (mkF m 64 #[iv (3 : Int32), iv p1, iv p2, iv p3, iv p4] [])) rfl (hb hby d1_64) (by decide) (by decide)
  obtain ⟨b1, g1⟩ : ∃ z, z = h0.size := ⟨_, rfl⟩
  rw [← g1] at A1 D1 U1 st1
  have o1 : n0 ≤ b1 := Nat.le_trans Z0 (Nat.le_of_eq g1.symm)
  have z1 : h0.size ≤ b1 := Nat.le_trans (Keep.refl h0 []).1 (Nat.le_of_eq g1.symm)
  have K1 : Keep h0 h1 [] := (Keep.refl h0 []).ext E1
  have f2 : Fld Z h1 b1 "java/lang/String" "coder" "B" (.int (0 : Int32)) := D1 (Or.inr (own_g hw 52 rfl)) (ty := .byte) (by decide)
  have f3 : Fld Z h1 b1 "java/lang/String" "value" "[B" .null := D1 (Or.inr (own_g hw 54 rfl)) (ty := (.array .byte)) (by decide)
  have f4 : n0 ≤ h1.size := (Nat.le_trans Z0 E1.1)
  obtain ⟨T5, h5, k5, X5, e5, E5, A5, st5⟩ := newP X1 hx hZ (own_g hw 9 rfl) e1 (g := (mkF m 69 #[iv (3 : Int32), iv p1, iv p2, iv p3, iv p4] [(.int (3 : Int32)), (.ref b1), (.ref b1)])) rfl (hb hby d1_69) rfl (by decide) (cap := 3) (by decide) (by decide) (by decide) (by decide)
  obtain ⟨b5, g5⟩ : ∃ z, z = h1.size := ⟨_, rfl⟩
  rw [← g5] at A5 st5
  have ne6 : b1 ≠ b5 := Nat.ne_of_lt (Nat.lt_of_lt_of_le A1.lt (Nat.le_of_eq g5.symm))
  have o5 : n0 ≤ b5 := Nat.le_trans f4 (Nat.le_of_eq g5.symm)
  have z5 : h0.size ≤ b5 := Nat.le_trans K1.1 (Nat.le_of_eq g5.symm)
  have K5 : Keep h0 h5 [] := K1.ext E5
  have V5 : Arv Z h5 b5 k5 .char (3 : Int32) [(.int (0 : Int32)), (.int (0 : Int32)), (.int (0 : Int32))] (.int (0 : Int32)) := (Arv.new A5 (by decide)).pad (pad_rep [] (.int (0 : Int32)) 3)
  obtain ⟨cl7, Ar7, qq7, S7, N7_, H7, G7⟩ := id V5
  have hin7 : ¬ ((0 : Int32) < 0 ∨ cl7.slots.size ≤ ((0 : Int32)).toNatClampNeg) := inb_of S7 ⟨by decide, by decide⟩
  obtain ⟨T8, h8, X8, e8, W8, st8⟩ := stC X5 hx hZ e5 Ar7 (j := (0 : Int32)) hin7 (g := (mkF m 74 #[iv (3 : Int32), iv p1, iv p2, iv p3, iv p4] [(.int p1), (.int (0 : Int32)), (.ref b5), (.ref b5), (.ref b1), (.ref b1)])) rfl rfl (hb hby d1_74)
  have V8 : Arv Z h8 b5 k5 .char (3 : Int32) [(.int (nar .char p1)), (.int (0 : Int32)), (.int (0 : Int32))] (.int (0 : Int32)) := Arv.set Ar7 qq7 S7 N7_ H7 G7 (fits_nar_char _) W8 0 rfl (Nat.le_of_ble_eq_true rfl)
  have N9 := Fr.snoc X8 N0 o5
  have K10 : Keep h0 h8 [] := K5.wr W8 (Or.inr z5)
  obtain ⟨cl11, Ar11, qq11, S11, N11_, H11, G11⟩ := id V8
  have hin11 : ¬ ((1 : Int32) < 0 ∨ cl11.slots.size ≤ ((1 : Int32)).toNatClampNeg) := inb_of S11 ⟨by decide, by decide⟩
  obtain ⟨T12, h12, X12, e12, W12, st12⟩ := stC X8 hx hZ e8 Ar11 (j := (1 : Int32)) hin11 (g := (mkF m 78 #[iv (3 : Int32), iv p1, iv p2, iv p3, iv p4] [(.int p2), (.int (1 : Int32)), (.ref b5), (.ref b5), (.ref b1), (.ref b1)])) rfl rfl (hb hby d1_78)
  have V12 : Arv Z h12 b5 k5 .char (3 : Int32) [(.int (nar .char p1)), (.int (nar .char p2)), (.int (0 : Int32))] (.int (0 : Int32)) := Arv.set Ar11 qq11 S11 N11_ H11 G11 (fits_nar_char _) W12 1 rfl (Nat.le_of_ble_eq_true rfl)
  have N13 := Fr.snoc X12 N9 o5
  have K14 : Keep h0 h12 [] := K10.wr W12 (Or.inr z5)
  obtain ⟨cl15, Ar15, qq15, S15, N15_, H15, G15⟩ := id V12
  have hin15 : ¬ ((2 : Int32) < 0 ∨ cl15.slots.size ≤ ((2 : Int32)).toNatClampNeg) := inb_of S15 ⟨by decide, by decide⟩
  obtain ⟨T16, h16, X16, e16, W16, st16⟩ := stC X12 hx hZ e12 Ar15 (j := (2 : Int32)) hin15 (g := (mkF m 82 #[iv (3 : Int32), iv p1, iv p2, iv p3, iv p4] [(.int p3), (.int (2 : Int32)), (.ref b5), (.ref b5), (.ref b1), (.ref b1)])) rfl rfl (hb hby d1_82)
  have V16 : Arv Z h16 b5 k5 .char (3 : Int32) [(.int (nar .char p1)), (.int (nar .char p2)), (.int (nar .char p3))] (.int (0 : Int32)) := Arv.set Ar15 qq15 S15 N15_ H15 G15 (fits_nar_char _) W16 2 rfl (Nat.le_of_ble_eq_true rfl)
  have N17 := Fr.snoc X16 N13 o5
  have K18 : Keep h0 h16 [] := K14.wr W16 (Or.inr z5)
  have f19 : Exa Z h16 b1 "java/lang/String" := ((((A1.ext E5).wr W8).wr W12).wr W16)
  have f20 : Fld Z h16 b1 "java/lang/String" "value" "[B" .null := ((((f3.ext E5).other W8 (Or.inl ne6)).other W12 (Or.inl ne6)).other W16 (Or.inl ne6))
  have f21 : Fld Z h16 b1 "java/lang/String" "coder" "B" (.int (0 : Int32)) := ((((f2.ext E5).other W8 (Or.inl ne6)).other W12 (Or.inl ne6)).other W16 (Or.inl ne6))
  have f22 : Sta Z h16 "java/lang/StringUTF16" "$assertionsDisabled" "Z" (.int (1 : Int32)) := (((((P_S_StringUTF16__assertionsDisabled.ext E1).ext E5).wr W8).wr W12).wr W16)
  have f23 : Sta Z h16 "java/lang/StringUTF16" "HI_BYTE_SHIFT" "I" (.int (0 : Int32)) := (((((P_S_StringUTF16_HI_BYTE_SHIFT.ext E1).ext E5).wr W8).wr W12).wr W16)
  have f24 : Sta Z h16 "java/lang/StringUTF16" "LO_BYTE_SHIFT" "I" (.int (8 : Int32)) := (((((P_S_StringUTF16_LO_BYTE_SHIFT.ext E1).ext E5).wr W8).wr W12).wr W16)
  have f25 : Sta Z h16 "java/lang/String" "COMPACT_STRINGS" "Z" (.int zC) := (((((P_S_String_COMPACT_STRINGS.ext E1).ext E5).wr W8).wr W12).wr W16)
  have f26 : n0 ≤ h16.size := (Nat.le_trans (Nat.le_trans (Nat.le_trans (Nat.le_trans f4 E5.1) (Keep.of_wr W8).1) (Keep.of_wr W12).1) (Keep.of_wr W16).1)
  obtain ⟨_, _, ⟨T27, L27, k27, n27⟩, -, X27, ⟨Lc27, hQ27, l27, y27, z27⟩, st27⟩ := X16.specialBack hx (y := own_y9) rfl hown (mvT hZ (own_g hw 10 rfl)) (mvT hZ (own_g hw 11 rfl)) (mvT hZ (own_g hw 12 rfl)) (by decide) (backOf (W := 1) (rmI1_3 l Z a0 hw [] b1 b5 k5 (nar .char p1) (nar .char p2) (nar .char p3) zC h16 n0 f26 f19 f20 f21 V16 ne6 (own_nr p1) (own_nr p2) (own_nr p3) f22 f23 f24 f25 hz o1) hZ (own_g hw 12 rfl) (own_g hw 8 rfl) (by decide) (by decide)) (g := (mkF m 83 #[iv (3 : Int32), iv p1, iv p2, iv p3, iv p4] [(.ref b5), (.ref b1), (.ref b1)])) rfl (by rw [hml]; rfl) (Steps.refl _) (a := b1) (argsL := [(.ref b5)]) (rest := [(.ref b1)]) (lenOf pd___C_V rfl) rfl (by show 2 * 0 + _ ≤ _; exact Nat.le_of_eq rfl) (hb hby d1_83) (fun _ _ => ⟨rfl, e16, (by decide : 2 + 2 ≤ _), (by decide : 7 + 9 ≤ _)⟩)
  dsimp only [Pt.U, Pt.locs, Pt.cells, Pt.slots] at X27 l27 y27 z27 st27 hQ27
  subst l27 y27 z27
  obtain ⟨t_27, kt_27, z_27, vs_27, cd_27, rfl, N27q, K27, sx27_0, f28, f29, f30, f31, f32, f33⟩ := hQ27
  have ot_27 : n0 ≤ t_27 := Nat.le_trans f26 sx27_0
  have zt_27 : h0.size ≤ t_27 := Nat.le_trans K18.1 sx27_0
  have ne34 : b1 ≠ t_27 := Nat.ne_of_lt (Nat.lt_of_lt_of_le f19.lt sx27_0)
  have ne35 : b5 ≠ t_27 := Nat.ne_of_lt (Nat.lt_of_lt_of_le V16.lt sx27_0)
  have KK27 : Keep h0 T27.heap [] := Keep.trans K18 K27 (allS (Or.inr z1) all0)
  have N27 := Fr.app N17 N27q
  obtain ⟨fs, hr, hrun, hended, hW, hsame⟩ := X27.leave (v := some (.ref b1)) (fun h => by rw [Bd.returns] at h; cases h)
  refine ⟨_, _, pre0 _ ?_, hrun, hended, _, _, rfl, ?_, ⟨_, rfl⟩, hW, hsame.mono (by decide) (by decide)⟩
  · refine XS.iloadN X0.here hx rfl (hb hby d1_0) rfl ?_
    refine XS.ifYes X0.here hx rfl (pc0 := 1) (pc' := 15) rfl (hb hby d1_1) rfl ((if0 _ _).trans (feq (by decide : ¬ ((3 : Int32) = (0 : Int32)))).2) (by decide) (by decide) ?_
    refine XS.iloadN X0.here hx rfl (hb hby d1_15) rfl ?_
    refine XS.iconst X0.here hx rfl (hb hby d1_16) ?_
    refine XS.icmpYes X0.here hx rfl (pc0 := 17) (pc' := 35) rfl (hb hby d1_17) rfl (feq (by decide : ¬ ((3 : Int32) = (1 : Int32)))).2 (by decide) (by decide) ?_
    refine XS.iloadN X0.here hx rfl (hb hby d1_35) rfl ?_
    refine XS.iconst X0.here hx rfl (hb hby d1_36) ?_
    refine XS.icmpYes X0.here hx rfl (pc0 := 37) (pc' := 59) rfl (hb hby d1_37) rfl (feq (by decide : ¬ ((3 : Int32) = (2 : Int32)))).2 (by decide) (by decide) ?_
    refine XS.iloadN X0.here hx rfl (hb hby d1_59) rfl ?_
    refine XS.iconst X0.here hx rfl (hb hby d1_60) ?_
    refine XS.icmpNo X0.here hx rfl (hb hby d1_61) rfl (teq (by decide : (3 : Int32) = (3 : Int32))).2 ?_
    refine st1 _ ?_
    refine XS.dup X1.here hx rfl (hb hby d1_67) rfl rfl ?_
    refine XS.iconst X1.here hx rfl (hb hby d1_68) ?_
    refine st5 _ ?_
    refine XS.dup X5.here hx rfl (hb hby d1_71) rfl rfl ?_
    refine XS.iconst X5.here hx rfl (hb hby d1_72) ?_
    refine XS.iloadN X5.here hx rfl (hb hby d1_73) rfl ?_
    refine st8 _ ?_
    refine XS.dup X8.here hx rfl (hb hby d1_75) rfl rfl ?_
    refine XS.iconst X8.here hx rfl (hb hby d1_76) ?_
    refine XS.iloadN X8.here hx rfl (hb hby d1_77) rfl ?_
    refine st12 _ ?_
    show Steps _ _ _ (T12.setTop (mkF m 79 #[iv (3 : Int32), iv p1, iv p2, iv p3, iv p4] [(.ref b5), (.ref b1), (.ref b1)])) _
    refine XS.dup X12.here hx rfl (hb hby d1_79) rfl rfl ?_
    refine XS.iconst X12.here hx rfl (hb hby d1_80) ?_
    refine XS.iloadN X12.here hx rfl (hb hby d1_81) rfl ?_
    refine st16 _ ?_
    show Steps _ _ _ (T16.setTop (mkF m 83 #[iv (3 : Int32), iv p1, iv p2, iv p3, iv p4] [(.ref b5), (.ref b1), (.ref b1)])) _
    refine st27.trans ?_
    show Steps _ _ _ (T27.setTop (mkF m 86 #[iv (3 : Int32), iv p1, iv p2, iv p3, iv p4] [(.ref b1)])) _
    exact retOut X27 hx Bd.returns rfl (Or.inr (Or.inr (Or.inr (Or.inr ⟨rfl, rfl, rfl⟩)))) (hb hby d1_86) hr
  · show Q_rmMk_3 Z p1 p2 p3 p4 zC h0 n0 _ T27.heap _
    exact ⟨b1, t_27, kt_27, z_27, vs_27, cd_27, rfl, N27, KK27, z1, zt_27, ne34, f28, f29, f30, f31, f32, f33⟩

theorem ef_rmNL4 (m : MethodId) (x0 : Int32) : entryFrame m #[(.int x0)] 1 = mkF m 0 #[iv x0] [] := by first | (simp [entryFrame, mkF, argsToLocals, Value.category]; done) | rfl
set_option maxRecDepth 65536 in
set_option maxHeartbeats 40000000 in
theorem rmNL4 (l : Launch) (Z : State) (a0 : Array Value) (hw : ∀ d ∈ tables_1, d.before a0 Z = true) (ws : List Jvm.Cond)  (h0 : Heap) (n0 : Nat) (Z0 : n0 ≤ h0.size) :
    MetFree l own_y0 (head1 (Jvm.Cond.code own_y0 jdk_52_method_3_code 1 (some .int) :: ws) ({ frames := 0, cells := 0, slots := 0, locals := 0 } : Room)) (fun a U => a = #[(.int (4 : Int32))] ∧ Z.Warmed39 U.vm ∧ U.heap = h0) (fun _ _ _ _ _ => True) (fun _ U o U' => ∃ v L, o = .returned v ∧ own_QP (some (.int (8 : Int32))) h0 n0 v U'.heap L ∧ FrameEnd U o U' L ({ frames := 0, cells := 0, slots := 0, locals := 0 } : Room).cells ({ frames := 0, cells := 0, slots := 0, locals := 0 } : Room).slots) := by
  refine MetFree.of_bodySF (plainFor_of_name pn_9) hisR ?_
  intro p e s m args below meth c s₁ Bd hml0 hP hK
  obtain ⟨rfl, hZ, hh⟩ := hP
  have hx := Bd.exec
  have hby := Bd.bytes
  have hml : c.maxLocals = 1 := hml0
  have hown : s.vm.findClass "java/lang/StringUTF16" = some m.cls := findClass_of_methodNamed Bd.named
  have hnm := (name_of_methodNamed Bd.named Bd.method).1
  have X0 : Stand p l e ({ frames := 0, cells := 0, slots := 0, locals := 0 } : Room) s m #[(.int (4 : Int32))] below meth c s₁ [] 0 0 := Stand.of_body Bd
  have e0 : s₁.heap = h0 := by rw [← hh, Bd.state]; rfl
  have N0 := Fr.nil n0
  have pre0 : ∀ t, Steps p.tables e below (s₁.setTop (mkF m 0 #[iv (4 : Int32)] [])) t → Steps p.tables e below (s₁.setTop (entryFrame m #[(.int (4 : Int32))] 1)) t := fun t k => castTop (ef_rmNL4 m (4 : Int32)) k
  obtain ⟨fs, hr, hrun, hended, hW, hsame⟩ := X0.leave (v := some (.int (8 : Int32))) (fun h => by rw [Bd.returns] at h; cases h)
  refine ⟨_, _, pre0 _ ?_, hrun, hended, _, _, rfl, ?_, ⟨_, rfl⟩, hW, hsame.mono (by decide) (by decide)⟩
  · refine XS.iloadN X0.here hx rfl (hb hby d9_0) rfl ?_
    refine XS.ifYes X0.here hx rfl (pc0 := 1) (pc' := 12) rfl (hb hby d9_1) rfl ((if0 _ _).trans (flt (by decide : ¬ ((4 : Int32) < (0 : Int32)))).2.1) (by decide) (by decide) ?_
    refine XS.iloadN X0.here hx rfl (hb hby d9_12) rfl ?_
    refine X0.ldcInt hx hown (mvT hZ (own_g hw 38 rfl)) (g := (mkF m 13 #[iv (4 : Int32)] [(.int (4 : Int32))])) rfl (hb hby d9_13) _ ?_
    refine XS.icmpYes X0.here hx rfl (pc0 := 15) (pc' := 55) rfl (hb hby d9_15) rfl (tlt (by decide : (4 : Int32) < (1073741823 : Int32))).1 (by decide) (by decide) ?_
    refine XS.iloadN X0.here hx rfl (hb hby d9_55) rfl ?_
    refine XS.iconst X0.here hx rfl (hb hby d9_56) ?_
    refine XS.ishl X0.here hx rfl (hb hby d9_57) rfl ?_
    show Steps _ _ _ (s₁.setTop (mkF m 58 #[iv (4 : Int32)] [(.int ((4 : Int32) <<< ((1 : Int32) &&& 31)))])) _
    rw [(by decide : ((4 : Int32) <<< ((1 : Int32) &&& 31)) = (8 : Int32))]
    show Steps _ _ _ (s₁.setTop (mkF m 58 #[iv (4 : Int32)] [(.int (8 : Int32))])) _
    exact retI X0 hx Bd.returns (hb hby d9_58) hr
  · show own_QP (some (.int (8 : Int32))) h0 n0 _ s₁.heap _
    rw [e0]
    exact ⟨rfl, N0, rfl⟩

theorem ef_rmNF4 (m : MethodId) (x0 : Int32) : entryFrame m #[(.int x0)] 1 = mkF m 0 #[iv x0] [] := by first | (simp [entryFrame, mkF, argsToLocals, Value.category]; done) | rfl
def Q_rmNF4 (Z : State)  (h0 : Heap) (n0 : Nat) (v : Option Value) (h : Heap) (L : List Loc) : Prop := ∃ (t : Addr), ∃ (kt : ClassId), (v = (some (.ref t)) ∧ Fr n0 L ∧ Keep h0 h [] ∧ h0.size ≤ t ∧ Arv Z h t kt .byte (8 : Int32) [(.int (0 : Int32)), (.int (0 : Int32)), (.int (0 : Int32)), (.int (0 : Int32)), (.int (0 : Int32)), (.int (0 : Int32)), (.int (0 : Int32)), (.int (0 : Int32))] (.int (0 : Int32)))
set_option maxRecDepth 65536 in
set_option maxHeartbeats 40000000 in
theorem rmNF4 (l : Launch) (Z : State) (a0 : Array Value) (hw : ∀ d ∈ tables_1, d.before a0 Z = true) (ws : List Jvm.Cond)  (h0 : Heap) (n0 : Nat) (Z0 : n0 ≤ h0.size) :
    MetFree l own_y1 (head1 (Jvm.Cond.code own_y1 jdk_52_method_2_code 1 (some (.array .byte)) :: ws) ({ frames := 1, cells := 1, slots := 8, locals := 12 } : Room)) (fun a U => a = #[(.int (4 : Int32))] ∧ Z.Warmed39 U.vm ∧ U.heap = h0) (fun _ _ _ _ _ => True) (fun _ U o U' => ∃ v L, o = .returned v ∧ Q_rmNF4 Z  h0 n0 v U'.heap L ∧ FrameEnd U o U' L ({ frames := 1, cells := 1, slots := 8, locals := 12 } : Room).cells ({ frames := 1, cells := 1, slots := 8, locals := 12 } : Room).slots) := by
  refine MetFree.of_bodySF (plainFor_of_name pn_8) hisR ?_
  intro p e s m args below meth c s₁ Bd hml0 hP hK
  obtain ⟨rfl, hZ, hh⟩ := hP
  have hx := Bd.exec
  have hby := Bd.bytes
  have hml : c.maxLocals = 1 := hml0
  have hown : s.vm.findClass "java/lang/StringUTF16" = some m.cls := findClass_of_methodNamed Bd.named
  have hnm := (name_of_methodNamed Bd.named Bd.method).1
  have X0 : Stand p l e ({ frames := 1, cells := 1, slots := 8, locals := 12 } : Room) s m #[(.int (4 : Int32))] below meth c s₁ [] 0 0 := Stand.of_body Bd
  have e0 : s₁.heap = h0 := by rw [← hh, Bd.state]; rfl
  have N0 := Fr.nil n0
  have pre0 : ∀ t, Steps p.tables e below (s₁.setTop (mkF m 0 #[iv (4 : Int32)] [])) t → Steps p.tables e below (s₁.setTop (entryFrame m #[(.int (4 : Int32))] 1)) t := fun t k => castTop (ef_rmNF4 m (4 : Int32)) k
  obtain ⟨_, _, ⟨T1, L1, k1, n1⟩, -, X1, ⟨Lc1, hQ1, l1, y1, z1⟩, st1⟩ := Jvm.LawKit.callS X0 hx (y := own_y0) hown (mvT hZ (own_g hw 35 rfl)) (mvT hZ (own_g hw 36 rfl)) (mvT hZ (own_g hw 23 rfl)) (mvT hZ (own_g hw 37 rfl)) (by decide) (backOf (W := 0) (rmNL4 l Z a0 hw []  h0 n0 Z0 ) hZ (own_g hw 37 rfl) (own_g hw 23 rfl) (by decide) (by decide)) (g := (mkF m 1 #[iv (4 : Int32)] [(.int (4 : Int32))])) rfl (by rw [hml]; rfl) (argsL := [(.int (4 : Int32))]) (rest := []) (lenOf pd__I_I rfl) rfl (by show 2 * 0 + _ ≤ _; exact Nat.le_of_eq rfl) (hb hby d8_1) (fun _ _ => ⟨rfl, e0, (by decide : 0 + 0 ≤ _), (by decide : 0 + 0 ≤ _)⟩)
  dsimp only [Pt.U, Pt.locs, Pt.cells, Pt.slots] at X1 l1 y1 z1 st1 hQ1
  subst l1 y1 z1
  obtain ⟨rfl, N1q, e1⟩ := hQ1
  have N1 := Fr.app N0 N1q
  obtain ⟨T2, h2, k2, X2, e2, E2, A2, st2⟩ := newP X1 hx hZ (own_g hw 25 rfl) e1 (g := (mkF m 4 #[iv (4 : Int32)] [(.int (8 : Int32))])) rfl (hb hby d8_4) rfl (by decide) (cap := 8) (by decide) (by decide) (by decide) (by decide)
  obtain ⟨b2, g2⟩ : ∃ z, z = h0.size := ⟨_, rfl⟩
  rw [← g2] at A2 st2
  have o2 : n0 ≤ b2 := Nat.le_trans Z0 (Nat.le_of_eq g2.symm)
  have z2 : h0.size ≤ b2 := Nat.le_trans (Keep.refl h0 []).1 (Nat.le_of_eq g2.symm)
  have K2 : Keep h0 h2 [] := (Keep.refl h0 []).ext E2
  have V2 : Arv Z h2 b2 k2 .byte (8 : Int32) [(.int (0 : Int32)), (.int (0 : Int32)), (.int (0 : Int32)), (.int (0 : Int32)), (.int (0 : Int32)), (.int (0 : Int32)), (.int (0 : Int32)), (.int (0 : Int32))] (.int (0 : Int32)) := (Arv.new A2 (by decide)).pad (pad_rep [] (.int (0 : Int32)) 8)
  obtain ⟨fs, hr, hrun, hended, hW, hsame⟩ := X2.leave (v := some (.ref b2)) (fun h => by rw [Bd.returns] at h; cases h)
  refine ⟨_, _, pre0 _ ?_, hrun, hended, _, _, rfl, ?_, ⟨_, rfl⟩, hW, hsame.mono (by decide) (by decide)⟩
  · refine XS.iloadN X0.here hx rfl (hb hby d8_0) rfl ?_
    show Steps _ _ _ (s₁.setTop (mkF m 1 #[iv (4 : Int32)] [(.int (4 : Int32))])) _
    refine st1 _ ?_
    refine st2 _ ?_
    show Steps _ _ _ (T2.setTop (mkF m 6 #[iv (4 : Int32)] [(.ref b2)])) _
    exact retOut X2 hx Bd.returns rfl (Or.inr (Or.inr (Or.inr (Or.inr ⟨rfl, rfl, rfl⟩)))) (hb hby d8_6) hr
  · show Q_rmNF4 Z  h0 n0 _ T2.heap _
    rw [e2]
    exact ⟨b2, k2, rfl, N1, K2, z2, V2⟩

theorem ef_rmPC4_0 (m : MethodId) (x0 : Addr) (x1 : Int32) (x2 : Int32) : entryFrame m #[(.ref x0), (.int x1), (.int x2)] 3 = mkF m 0 #[rv x0, iv x1, iv x2] [] := by first | (simp [entryFrame, mkF, argsToLocals, Value.category]; done) | rfl
def Q_rmPC4_0 (Z : State) (u0 : Addr) (p2 : Int32) (kB : ClassId) (d0 : Int32) (d1 : Int32) (d2 : Int32) (d3 : Int32) (d4 : Int32) (d5 : Int32) (d6 : Int32) (d7 : Int32) (h0 : Heap) (n0 : Nat) (v : Option Value) (h : Heap) (L : List Loc) : Prop := (v = none ∧ Fr n0 L ∧ Keep h0 h [u0] ∧ Arv Z h u0 kB .byte (8 : Int32) [(.int (((p2 >>> ((0 : Int32) &&& 31)).toInt8.toInt32).toInt8.toInt32)), (.int (((p2 >>> ((8 : Int32) &&& 31)).toInt8.toInt32).toInt8.toInt32)), (.int d2), (.int d3), (.int d4), (.int d5), (.int d6), (.int d7)] (.int (0 : Int32)))
set_option maxRecDepth 65536 in
set_option maxHeartbeats 40000000 in
theorem rmPC4_0 (l : Launch) (Z : State) (a0 : Array Value) (hw : ∀ d ∈ tables_1, d.before a0 Z = true) (ws : List Jvm.Cond) (u0 : Addr) (p2 : Int32) (kB : ClassId) (d0 : Int32) (d1 : Int32) (d2 : Int32) (d3 : Int32) (d4 : Int32) (d5 : Int32) (d6 : Int32) (d7 : Int32) (h0 : Heap) (n0 : Nat) (Z0 : n0 ≤ h0.size) (P_S_StringUTF16__assertionsDisabled : Sta Z h0 "java/lang/StringUTF16" "$assertionsDisabled" "Z" (.int (1 : Int32))) (P_S_StringUTF16_HI_BYTE_SHIFT : Sta Z h0 "java/lang/StringUTF16" "HI_BYTE_SHIFT" "I" (.int (0 : Int32))) (P_S_StringUTF16_LO_BYTE_SHIFT : Sta Z h0 "java/lang/StringUTF16" "LO_BYTE_SHIFT" "I" (.int (8 : Int32))) (P_V_u0 : Arv Z h0 u0 kB .byte (8 : Int32) [(.int d0), (.int d1), (.int d2), (.int d3), (.int d4), (.int d5), (.int d6), (.int d7)] (.int (0 : Int32))) (g_u0 : n0 ≤ u0) :
    MetFree l own_y2 (head1 (Jvm.Cond.code own_y2 jdk_52_method_4_code 3 none :: ws) ({ frames := 0, cells := 0, slots := 0, locals := 0 } : Room)) (fun a U => a = #[(.ref u0), (.int (0 : Int32)), (.int p2)] ∧ Z.Warmed39 U.vm ∧ U.heap = h0) (fun _ _ _ _ _ => True) (fun _ U o U' => ∃ v L, o = .returned v ∧ Q_rmPC4_0 Z u0 p2 kB d0 d1 d2 d3 d4 d5 d6 d7 h0 n0 v U'.heap L ∧ FrameEnd U o U' L ({ frames := 0, cells := 0, slots := 0, locals := 0 } : Room).cells ({ frames := 0, cells := 0, slots := 0, locals := 0 } : Room).slots) := by
  refine MetFree.of_bodySF (plainFor_of_name pn_10) hisR ?_
  intro p e s m args below meth c s₁ Bd hml0 hP hK
  obtain ⟨rfl, hZ, hh⟩ := hP
  have hx := Bd.exec
  have hby := Bd.bytes
  have hml : c.maxLocals = 3 := hml0
  have hown : s.vm.findClass "java/lang/StringUTF16" = some m.cls := findClass_of_methodNamed Bd.named
  have hnm := (name_of_methodNamed Bd.named Bd.method).1
  have X0 : Stand p l e ({ frames := 0, cells := 0, slots := 0, locals := 0 } : Room) s m #[(.ref u0), (.int (0 : Int32)), (.int p2)] below meth c s₁ [] 0 0 := Stand.of_body Bd
  have e0 : s₁.heap = h0 := by rw [← hh, Bd.state]; rfl
  have N0 := Fr.nil n0
  have pre0 : ∀ t, Steps p.tables e below (s₁.setTop (mkF m 0 #[rv u0, iv (0 : Int32), iv p2] [])) t → Steps p.tables e below (s₁.setTop (entryFrame m #[(.ref u0), (.int (0 : Int32)), (.int p2)] 3)) t := fun t k => castTop (ef_rmPC4_0 m u0 (0 : Int32) p2) k
  obtain ⟨T1, X1, e1, st1⟩ := getS2 X0 hx hZ hown (host := "") (Or.inl (own_g hw 42 rfl)) Via.refl e0 P_S_StringUTF16__assertionsDisabled (g := (mkF m 0 #[rv u0, iv (0 : Int32), iv p2] [])) rfl (hb hby d10_0)
  obtain ⟨T2, X2, e2, st2⟩ := getS2 X1 hx hZ hown (host := "") (Or.inl (own_g hw 43 rfl)) Via.refl e1 P_S_StringUTF16_HI_BYTE_SHIFT (g := (mkF m 38 #[rv u0, iv (1 : Int32), iv p2] [(.int p2), (.int (0 : Int32)), (.ref u0)])) rfl (hb hby d10_38)
  obtain ⟨cl3, Ar3, qq3, S3, N3_, H3, G3⟩ := id P_V_u0
  have hin3 : ¬ ((0 : Int32) < 0 ∨ cl3.slots.size ≤ ((0 : Int32)).toNatClampNeg) := inb_of S3 ⟨by decide, by decide⟩
  obtain ⟨T4, h4, X4, e4, W4, st4⟩ := stB X2 hx hZ e2 Ar3 (j := (0 : Int32)) hin3 (g := (mkF m 43 #[rv u0, iv (1 : Int32), iv p2] [(.int ((p2 >>> ((0 : Int32) &&& 31)).toInt8.toInt32)), (.int (0 : Int32)), (.ref u0)])) rfl rfl (hb hby d10_43)
  have V4 : Arv Z h4 u0 kB .byte (8 : Int32) [(.int (((p2 >>> ((0 : Int32) &&& 31)).toInt8.toInt32).toInt8.toInt32)), (.int d1), (.int d2), (.int d3), (.int d4), (.int d5), (.int d6), (.int d7)] (.int (0 : Int32)) := Arv.set Ar3 qq3 S3 N3_ H3 G3 (fits_nar_byte _) W4 0 rfl (Nat.le_of_ble_eq_true rfl)
  have N5 := Fr.snoc X4 N0 g_u0
  have K6 : Keep h0 h4 [u0] := (Keep.refl h0 [u0]).wr W4 (Or.inl (List.mem_of_getElem? (i := 0) rfl))
  have f7 : Sta Z h4 "java/lang/StringUTF16" "LO_BYTE_SHIFT" "I" (.int (8 : Int32)) := (P_S_StringUTF16_LO_BYTE_SHIFT.wr W4)
  obtain ⟨T8, X8, e8, st8⟩ := getS2 X4 hx hZ hown (host := "") (Or.inl (own_g hw 44 rfl)) Via.refl e4 f7 (g := (mkF m 47 #[rv u0, iv (1 : Int32), iv p2] [(.int p2), (.int (1 : Int32)), (.ref u0)])) rfl (hb hby d10_47)
  obtain ⟨cl9, Ar9, qq9, S9, N9_, H9, G9⟩ := id V4
  have hin9 : ¬ ((1 : Int32) < 0 ∨ cl9.slots.size ≤ ((1 : Int32)).toNatClampNeg) := inb_of S9 ⟨by decide, by decide⟩
  obtain ⟨T10, h10, X10, e10, W10, st10⟩ := stB X8 hx hZ e8 Ar9 (j := (1 : Int32)) hin9 (g := (mkF m 52 #[rv u0, iv (1 : Int32), iv p2] [(.int ((p2 >>> ((8 : Int32) &&& 31)).toInt8.toInt32)), (.int (1 : Int32)), (.ref u0)])) rfl rfl (hb hby d10_52)
  have V10 : Arv Z h10 u0 kB .byte (8 : Int32) [(.int (((p2 >>> ((0 : Int32) &&& 31)).toInt8.toInt32).toInt8.toInt32)), (.int (((p2 >>> ((8 : Int32) &&& 31)).toInt8.toInt32).toInt8.toInt32)), (.int d2), (.int d3), (.int d4), (.int d5), (.int d6), (.int d7)] (.int (0 : Int32)) := Arv.set Ar9 qq9 S9 N9_ H9 G9 (fits_nar_byte _) W10 1 rfl (Nat.le_of_ble_eq_true rfl)
  have N11 := Fr.snoc X10 N5 g_u0
  have K12 : Keep h0 h10 [u0] := K6.wr W10 (Or.inl (List.mem_of_getElem? (i := 0) rfl))
  obtain ⟨fs, hr, hrun, hended, hW, hsame⟩ := X10.leave (v := none) (fun _ => rfl)
  refine ⟨_, _, pre0 _ ?_, hrun, hended, _, _, rfl, ?_, ⟨_, rfl⟩, hW, hsame.mono (by decide) (by decide)⟩
  · refine st1 _ ?_
    refine XS.ifYes X1.here hx rfl (pc0 := 3) (pc' := 28) rfl (hb hby d10_3) rfl ((if0 _ _).trans (feq (by decide : ¬ ((1 : Int32) = (0 : Int32)))).2) (by decide) (by decide) ?_
    refine XS.iloadN X1.here hx rfl (hb hby d10_28) rfl ?_
    refine XS.iconst X1.here hx rfl (hb hby d10_29) ?_
    refine XS.ishl X1.here hx rfl (hb hby d10_30) rfl ?_
    show Steps _ _ _ (T1.setTop (mkF m 31 #[rv u0, iv (0 : Int32), iv p2] [(.int ((0 : Int32) <<< ((1 : Int32) &&& 31)))])) _
    rw [(by decide : ((0 : Int32) <<< ((1 : Int32) &&& 31)) = (0 : Int32))]
    refine XS.istoreN X1.here hx rfl (hb hby d10_31) rfl (l' := #[rv u0, iv (0 : Int32), iv p2]) rfl ?_
    refine XS.aloadN X1.here hx rfl (hb hby d10_32) rfl rfl ?_
    refine XS.iloadN X1.here hx rfl (hb hby d10_33) rfl ?_
    refine XS.iinc X1.here hx rfl (hb hby d10_34) rfl (l' := #[rv u0, iv (1 : Int32), iv p2]) rfl ?_
    refine XS.iloadN X1.here hx rfl (hb hby d10_37) rfl ?_
    refine st2 _ ?_
    refine XS.ishr X2.here hx rfl (hb hby d10_41) rfl ?_
    refine XS.i2b X2.here hx rfl (hb hby d10_42) rfl ?_
    refine st4 _ ?_
    refine XS.aloadN X4.here hx rfl (hb hby d10_44) rfl rfl ?_
    refine XS.iloadN X4.here hx rfl (hb hby d10_45) rfl ?_
    refine XS.iloadN X4.here hx rfl (hb hby d10_46) rfl ?_
    refine st8 _ ?_
    refine XS.ishr X8.here hx rfl (hb hby d10_50) rfl ?_
    refine XS.i2b X8.here hx rfl (hb hby d10_51) rfl ?_
    refine st10 _ ?_
    show Steps _ _ _ (T10.setTop (mkF m 53 #[rv u0, iv (1 : Int32), iv p2] [])) _
    exact X10.returnOut hx Bd.returns (hb hby d10_53) hr
  · show Q_rmPC4_0 Z u0 p2 kB d0 d1 d2 d3 d4 d5 d6 d7 h0 n0 _ T10.heap _
    rw [e10]
    exact ⟨rfl, N11, K12, V10⟩

theorem ef_rmGC4_0 (m : MethodId) (x0 : Addr) (x1 : Int32) : entryFrame m #[(.ref x0), (.int x1)] 2 = mkF m 0 #[rv x0, iv x1] [] := by first | (simp [entryFrame, mkF, argsToLocals, Value.category]; done) | rfl
set_option maxRecDepth 65536 in
set_option maxHeartbeats 40000000 in
theorem rmGC4_0 (l : Launch) (Z : State) (a0 : Array Value) (hw : ∀ d ∈ tables_1, d.before a0 Z = true) (ws : List Jvm.Cond) (u0 : Addr) (kB : ClassId) (d0 : Int32) (d1 : Int32) (d2 : Int32) (d3 : Int32) (d4 : Int32) (d5 : Int32) (d6 : Int32) (d7 : Int32) (h0 : Heap) (n0 : Nat) (Z0 : n0 ≤ h0.size) (P_S_StringUTF16__assertionsDisabled : Sta Z h0 "java/lang/StringUTF16" "$assertionsDisabled" "Z" (.int (1 : Int32))) (P_S_StringUTF16_HI_BYTE_SHIFT : Sta Z h0 "java/lang/StringUTF16" "HI_BYTE_SHIFT" "I" (.int (0 : Int32))) (P_S_StringUTF16_LO_BYTE_SHIFT : Sta Z h0 "java/lang/StringUTF16" "LO_BYTE_SHIFT" "I" (.int (8 : Int32))) (P_V_u0 : Arv Z h0 u0 kB .byte (8 : Int32) [(.int d0), (.int d1), (.int d2), (.int d3), (.int d4), (.int d5), (.int d6), (.int d7)] (.int (0 : Int32))) :
    MetFree l own_y3 (head1 (Jvm.Cond.code own_y3 jdk_52_method_5_code 2 (some .char) :: ws) ({ frames := 0, cells := 0, slots := 0, locals := 0 } : Room)) (fun a U => a = #[(.ref u0), (.int (0 : Int32))] ∧ Z.Warmed39 U.vm ∧ U.heap = h0) (fun _ _ _ _ _ => True) (fun _ U o U' => ∃ v L, o = .returned v ∧ own_QP (some (.int (own_gc d0 d1))) h0 n0 v U'.heap L ∧ FrameEnd U o U' L ({ frames := 0, cells := 0, slots := 0, locals := 0 } : Room).cells ({ frames := 0, cells := 0, slots := 0, locals := 0 } : Room).slots) := by
  refine MetFree.of_bodySF (plainFor_of_name pn_11) hisR ?_
  intro p e s m args below meth c s₁ Bd hml0 hP hK
  obtain ⟨rfl, hZ, hh⟩ := hP
  have hx := Bd.exec
  have hby := Bd.bytes
  have hml : c.maxLocals = 2 := hml0
  have hown : s.vm.findClass "java/lang/StringUTF16" = some m.cls := findClass_of_methodNamed Bd.named
  have hnm := (name_of_methodNamed Bd.named Bd.method).1
  have X0 : Stand p l e ({ frames := 0, cells := 0, slots := 0, locals := 0 } : Room) s m #[(.ref u0), (.int (0 : Int32))] below meth c s₁ [] 0 0 := Stand.of_body Bd
  have e0 : s₁.heap = h0 := by rw [← hh, Bd.state]; rfl
  have N0 := Fr.nil n0
  have pre0 : ∀ t, Steps p.tables e below (s₁.setTop (mkF m 0 #[rv u0, iv (0 : Int32)] [])) t → Steps p.tables e below (s₁.setTop (entryFrame m #[(.ref u0), (.int (0 : Int32))] 2)) t := fun t k => castTop (ef_rmGC4_0 m u0 (0 : Int32)) k
  obtain ⟨T1, X1, e1, st1⟩ := getS2 X0 hx hZ hown (host := "") (Or.inl (own_g hw 42 rfl)) Via.refl e0 P_S_StringUTF16__assertionsDisabled (g := (mkF m 0 #[rv u0, iv (0 : Int32)] [])) rfl (hb hby d11_0)
  obtain ⟨cl2, Ar2, qq2, S2, N2_, H2, G2⟩ := id P_V_u0
  have hin2 : ¬ ((0 : Int32) < 0 ∨ cl2.slots.size ≤ ((0 : Int32)).toNatClampNeg) := inb_of S2 ⟨by decide, by decide⟩
  have hat2 : cl2.slots[((0 : Int32)).toNatClampNeg]? = some (.int d0) := H2.at hin2 rfl
  obtain ⟨T3, X3, e3, st3⟩ := getS2 X1 hx hZ hown (host := "") (Or.inl (own_g hw 43 rfl)) Via.refl e1 P_S_StringUTF16_HI_BYTE_SHIFT (g := (mkF m 42 #[rv u0, iv (1 : Int32)] [(.int (d0 &&& (255 : Int32)))])) rfl (hb hby d11_42)
  obtain ⟨cl4, Ar4, qq4, S4, N4_, H4, G4⟩ := id P_V_u0
  have hin4 : ¬ ((1 : Int32) < 0 ∨ cl4.slots.size ≤ ((1 : Int32)).toNatClampNeg) := inb_of S4 ⟨by decide, by decide⟩
  have hat4 : cl4.slots[((1 : Int32)).toNatClampNeg]? = some (.int d1) := H4.at hin4 rfl
  obtain ⟨T5, X5, e5, st5⟩ := getS2 X3 hx hZ hown (host := "") (Or.inl (own_g hw 44 rfl)) Via.refl e3 P_S_StringUTF16_LO_BYTE_SHIFT (g := (mkF m 53 #[rv u0, iv (1 : Int32)] [(.int (d1 &&& (255 : Int32))), (.int ((d0 &&& (255 : Int32)) <<< ((0 : Int32) &&& 31)))])) rfl (hb hby d11_53)
  obtain ⟨fs, hr, hrun, hended, hW, hsame⟩ := X5.leave (v := some (.int (nar .char ((((d0 &&& (255 : Int32)) <<< ((0 : Int32) &&& 31)) ||| ((d1 &&& (255 : Int32)) <<< ((8 : Int32) &&& 31))).toUInt32.toUInt16.toUInt32.toInt32)))) (fun h => by rw [Bd.returns] at h; cases h)
  refine ⟨_, _, pre0 _ ?_, hrun, hended, _, _, rfl, ?_, ⟨_, rfl⟩, hW, hsame.mono (by decide) (by decide)⟩
  · refine st1 _ ?_
    refine XS.ifYes X1.here hx rfl (pc0 := 3) (pc' := 28) rfl (hb hby d11_3) rfl ((if0 _ _).trans (feq (by decide : ¬ ((1 : Int32) = (0 : Int32)))).2) (by decide) (by decide) ?_
    refine XS.iloadN X1.here hx rfl (hb hby d11_28) rfl ?_
    refine XS.iconst X1.here hx rfl (hb hby d11_29) ?_
    refine XS.ishl X1.here hx rfl (hb hby d11_30) rfl ?_
    show Steps _ _ _ (T1.setTop (mkF m 31 #[rv u0, iv (0 : Int32)] [(.int ((0 : Int32) <<< ((1 : Int32) &&& 31)))])) _
    rw [(by decide : ((0 : Int32) <<< ((1 : Int32) &&& 31)) = (0 : Int32))]
    refine XS.istoreN X1.here hx rfl (hb hby d11_31) rfl (l' := #[rv u0, iv (0 : Int32)]) rfl ?_
    refine XS.aloadN X1.here hx rfl (hb hby d11_32) rfl rfl ?_
    refine XS.iloadN X1.here hx rfl (hb hby d11_33) rfl ?_
    refine XS.iinc X1.here hx rfl (hb hby d11_34) rfl (l' := #[rv u0, iv (1 : Int32)]) rfl ?_
    refine X1.baloadBytes hx (j := (0 : Int32)) (v := (.int d0)) (by rw [e1]; exact Ar2.1) (State.isArrayOf_alike hZ.alike Ar2.2.1) Ar2.2.2 hin2 hat2 (g := (mkF m 37 #[rv u0, iv (1 : Int32)] [(.int (0 : Int32)), (.ref u0)])) rfl rfl (hb hby d11_37) _ ?_
    refine XS.sipush X1.here hx rfl (hb hby d11_38) ?_
    refine XS.iand X1.here hx rfl (hb hby d11_41) rfl ?_
    refine st3 _ ?_
    refine XS.ishl X3.here hx rfl (hb hby d11_45) rfl ?_
    refine XS.aloadN X3.here hx rfl (hb hby d11_46) rfl rfl ?_
    refine XS.iloadN X3.here hx rfl (hb hby d11_47) rfl ?_
    refine X3.baloadBytes hx (j := (1 : Int32)) (v := (.int d1)) (by rw [e3]; exact Ar4.1) (State.isArrayOf_alike hZ.alike Ar4.2.1) Ar4.2.2 hin4 hat4 (g := (mkF m 48 #[rv u0, iv (1 : Int32)] [(.int (1 : Int32)), (.ref u0), (.int ((d0 &&& (255 : Int32)) <<< ((0 : Int32) &&& 31)))])) rfl rfl (hb hby d11_48) _ ?_
    refine XS.sipush X3.here hx rfl (hb hby d11_49) ?_
    refine XS.iand X3.here hx rfl (hb hby d11_52) rfl ?_
    refine st5 _ ?_
    refine XS.ishl X5.here hx rfl (hb hby d11_56) rfl ?_
    refine XS.ior X5.here hx rfl (hb hby d11_57) rfl ?_
    refine XS.i2c X5.here hx rfl (hb hby d11_58) rfl ?_
    show Steps _ _ _ (T5.setTop (mkF m 59 #[rv u0, iv (1 : Int32)] [(.int ((((d0 &&& (255 : Int32)) <<< ((0 : Int32) &&& 31)) ||| ((d1 &&& (255 : Int32)) <<< ((8 : Int32) &&& 31))).toUInt32.toUInt16.toUInt32.toInt32))])) _
    exact retN X5 hx (t := .char) Bd.returns (by simp) (hb hby d11_59) hr
  · show own_QP (some (.int (own_gc d0 d1))) h0 n0 _ T5.heap _
    rw [e5]
    exact ⟨(by first | rfl | simp []), N0, rfl⟩

theorem ef_rmPC4_1 (m : MethodId) (x0 : Addr) (x1 : Int32) (x2 : Int32) : entryFrame m #[(.ref x0), (.int x1), (.int x2)] 3 = mkF m 0 #[rv x0, iv x1, iv x2] [] := by first | (simp [entryFrame, mkF, argsToLocals, Value.category]; done) | rfl
def Q_rmPC4_1 (Z : State) (u0 : Addr) (p2 : Int32) (kB : ClassId) (d0 : Int32) (d1 : Int32) (d2 : Int32) (d3 : Int32) (d4 : Int32) (d5 : Int32) (d6 : Int32) (d7 : Int32) (h0 : Heap) (n0 : Nat) (v : Option Value) (h : Heap) (L : List Loc) : Prop := (v = none ∧ Fr n0 L ∧ Keep h0 h [u0] ∧ Arv Z h u0 kB .byte (8 : Int32) [(.int d0), (.int d1), (.int (((p2 >>> ((0 : Int32) &&& 31)).toInt8.toInt32).toInt8.toInt32)), (.int (((p2 >>> ((8 : Int32) &&& 31)).toInt8.toInt32).toInt8.toInt32)), (.int d4), (.int d5), (.int d6), (.int d7)] (.int (0 : Int32)))
set_option maxRecDepth 65536 in
set_option maxHeartbeats 40000000 in
theorem rmPC4_1 (l : Launch) (Z : State) (a0 : Array Value) (hw : ∀ d ∈ tables_1, d.before a0 Z = true) (ws : List Jvm.Cond) (u0 : Addr) (p2 : Int32) (kB : ClassId) (d0 : Int32) (d1 : Int32) (d2 : Int32) (d3 : Int32) (d4 : Int32) (d5 : Int32) (d6 : Int32) (d7 : Int32) (h0 : Heap) (n0 : Nat) (Z0 : n0 ≤ h0.size) (P_S_StringUTF16__assertionsDisabled : Sta Z h0 "java/lang/StringUTF16" "$assertionsDisabled" "Z" (.int (1 : Int32))) (P_S_StringUTF16_HI_BYTE_SHIFT : Sta Z h0 "java/lang/StringUTF16" "HI_BYTE_SHIFT" "I" (.int (0 : Int32))) (P_S_StringUTF16_LO_BYTE_SHIFT : Sta Z h0 "java/lang/StringUTF16" "LO_BYTE_SHIFT" "I" (.int (8 : Int32))) (P_V_u0 : Arv Z h0 u0 kB .byte (8 : Int32) [(.int d0), (.int d1), (.int d2), (.int d3), (.int d4), (.int d5), (.int d6), (.int d7)] (.int (0 : Int32))) (g_u0 : n0 ≤ u0) :
    MetFree l own_y2 (head1 (Jvm.Cond.code own_y2 jdk_52_method_4_code 3 none :: ws) ({ frames := 0, cells := 0, slots := 0, locals := 0 } : Room)) (fun a U => a = #[(.ref u0), (.int (1 : Int32)), (.int p2)] ∧ Z.Warmed39 U.vm ∧ U.heap = h0) (fun _ _ _ _ _ => True) (fun _ U o U' => ∃ v L, o = .returned v ∧ Q_rmPC4_1 Z u0 p2 kB d0 d1 d2 d3 d4 d5 d6 d7 h0 n0 v U'.heap L ∧ FrameEnd U o U' L ({ frames := 0, cells := 0, slots := 0, locals := 0 } : Room).cells ({ frames := 0, cells := 0, slots := 0, locals := 0 } : Room).slots) := by
  refine MetFree.of_bodySF (plainFor_of_name pn_10) hisR ?_
  intro p e s m args below meth c s₁ Bd hml0 hP hK
  obtain ⟨rfl, hZ, hh⟩ := hP
  have hx := Bd.exec
  have hby := Bd.bytes
  have hml : c.maxLocals = 3 := hml0
  have hown : s.vm.findClass "java/lang/StringUTF16" = some m.cls := findClass_of_methodNamed Bd.named
  have hnm := (name_of_methodNamed Bd.named Bd.method).1
  have X0 : Stand p l e ({ frames := 0, cells := 0, slots := 0, locals := 0 } : Room) s m #[(.ref u0), (.int (1 : Int32)), (.int p2)] below meth c s₁ [] 0 0 := Stand.of_body Bd
  have e0 : s₁.heap = h0 := by rw [← hh, Bd.state]; rfl
  have N0 := Fr.nil n0
  have pre0 : ∀ t, Steps p.tables e below (s₁.setTop (mkF m 0 #[rv u0, iv (1 : Int32), iv p2] [])) t → Steps p.tables e below (s₁.setTop (entryFrame m #[(.ref u0), (.int (1 : Int32)), (.int p2)] 3)) t := fun t k => castTop (ef_rmPC4_1 m u0 (1 : Int32) p2) k
  obtain ⟨T1, X1, e1, st1⟩ := getS2 X0 hx hZ hown (host := "") (Or.inl (own_g hw 42 rfl)) Via.refl e0 P_S_StringUTF16__assertionsDisabled (g := (mkF m 0 #[rv u0, iv (1 : Int32), iv p2] [])) rfl (hb hby d10_0)
  obtain ⟨T2, X2, e2, st2⟩ := getS2 X1 hx hZ hown (host := "") (Or.inl (own_g hw 43 rfl)) Via.refl e1 P_S_StringUTF16_HI_BYTE_SHIFT (g := (mkF m 38 #[rv u0, iv (3 : Int32), iv p2] [(.int p2), (.int (2 : Int32)), (.ref u0)])) rfl (hb hby d10_38)
  obtain ⟨cl3, Ar3, qq3, S3, N3_, H3, G3⟩ := id P_V_u0
  have hin3 : ¬ ((2 : Int32) < 0 ∨ cl3.slots.size ≤ ((2 : Int32)).toNatClampNeg) := inb_of S3 ⟨by decide, by decide⟩
  obtain ⟨T4, h4, X4, e4, W4, st4⟩ := stB X2 hx hZ e2 Ar3 (j := (2 : Int32)) hin3 (g := (mkF m 43 #[rv u0, iv (3 : Int32), iv p2] [(.int ((p2 >>> ((0 : Int32) &&& 31)).toInt8.toInt32)), (.int (2 : Int32)), (.ref u0)])) rfl rfl (hb hby d10_43)
  have V4 : Arv Z h4 u0 kB .byte (8 : Int32) [(.int d0), (.int d1), (.int (((p2 >>> ((0 : Int32) &&& 31)).toInt8.toInt32).toInt8.toInt32)), (.int d3), (.int d4), (.int d5), (.int d6), (.int d7)] (.int (0 : Int32)) := Arv.set Ar3 qq3 S3 N3_ H3 G3 (fits_nar_byte _) W4 2 rfl (Nat.le_of_ble_eq_true rfl)
  have N5 := Fr.snoc X4 N0 g_u0
  have K6 : Keep h0 h4 [u0] := (Keep.refl h0 [u0]).wr W4 (Or.inl (List.mem_of_getElem? (i := 0) rfl))
  have f7 : Sta Z h4 "java/lang/StringUTF16" "LO_BYTE_SHIFT" "I" (.int (8 : Int32)) := (P_S_StringUTF16_LO_BYTE_SHIFT.wr W4)
  obtain ⟨T8, X8, e8, st8⟩ := getS2 X4 hx hZ hown (host := "") (Or.inl (own_g hw 44 rfl)) Via.refl e4 f7 (g := (mkF m 47 #[rv u0, iv (3 : Int32), iv p2] [(.int p2), (.int (3 : Int32)), (.ref u0)])) rfl (hb hby d10_47)
  obtain ⟨cl9, Ar9, qq9, S9, N9_, H9, G9⟩ := id V4
  have hin9 : ¬ ((3 : Int32) < 0 ∨ cl9.slots.size ≤ ((3 : Int32)).toNatClampNeg) := inb_of S9 ⟨by decide, by decide⟩
  obtain ⟨T10, h10, X10, e10, W10, st10⟩ := stB X8 hx hZ e8 Ar9 (j := (3 : Int32)) hin9 (g := (mkF m 52 #[rv u0, iv (3 : Int32), iv p2] [(.int ((p2 >>> ((8 : Int32) &&& 31)).toInt8.toInt32)), (.int (3 : Int32)), (.ref u0)])) rfl rfl (hb hby d10_52)
  have V10 : Arv Z h10 u0 kB .byte (8 : Int32) [(.int d0), (.int d1), (.int (((p2 >>> ((0 : Int32) &&& 31)).toInt8.toInt32).toInt8.toInt32)), (.int (((p2 >>> ((8 : Int32) &&& 31)).toInt8.toInt32).toInt8.toInt32)), (.int d4), (.int d5), (.int d6), (.int d7)] (.int (0 : Int32)) := Arv.set Ar9 qq9 S9 N9_ H9 G9 (fits_nar_byte _) W10 3 rfl (Nat.le_of_ble_eq_true rfl)
  have N11 := Fr.snoc X10 N5 g_u0
  have K12 : Keep h0 h10 [u0] := K6.wr W10 (Or.inl (List.mem_of_getElem? (i := 0) rfl))
  obtain ⟨fs, hr, hrun, hended, hW, hsame⟩ := X10.leave (v := none) (fun _ => rfl)
  refine ⟨_, _, pre0 _ ?_, hrun, hended, _, _, rfl, ?_, ⟨_, rfl⟩, hW, hsame.mono (by decide) (by decide)⟩
  · refine st1 _ ?_
    refine XS.ifYes X1.here hx rfl (pc0 := 3) (pc' := 28) rfl (hb hby d10_3) rfl ((if0 _ _).trans (feq (by decide : ¬ ((1 : Int32) = (0 : Int32)))).2) (by decide) (by decide) ?_
    refine XS.iloadN X1.here hx rfl (hb hby d10_28) rfl ?_
    refine XS.iconst X1.here hx rfl (hb hby d10_29) ?_
    refine XS.ishl X1.here hx rfl (hb hby d10_30) rfl ?_
    show Steps _ _ _ (T1.setTop (mkF m 31 #[rv u0, iv (1 : Int32), iv p2] [(.int ((1 : Int32) <<< ((1 : Int32) &&& 31)))])) _
    rw [(by decide : ((1 : Int32) <<< ((1 : Int32) &&& 31)) = (2 : Int32))]
    refine XS.istoreN X1.here hx rfl (hb hby d10_31) rfl (l' := #[rv u0, iv (2 : Int32), iv p2]) rfl ?_
    refine XS.aloadN X1.here hx rfl (hb hby d10_32) rfl rfl ?_
    refine XS.iloadN X1.here hx rfl (hb hby d10_33) rfl ?_
    refine XS.iinc X1.here hx rfl (hb hby d10_34) rfl (l' := #[rv u0, iv (3 : Int32), iv p2]) rfl ?_
    refine XS.iloadN X1.here hx rfl (hb hby d10_37) rfl ?_
    refine st2 _ ?_
    refine XS.ishr X2.here hx rfl (hb hby d10_41) rfl ?_
    refine XS.i2b X2.here hx rfl (hb hby d10_42) rfl ?_
    refine st4 _ ?_
    refine XS.aloadN X4.here hx rfl (hb hby d10_44) rfl rfl ?_
    refine XS.iloadN X4.here hx rfl (hb hby d10_45) rfl ?_
    refine XS.iloadN X4.here hx rfl (hb hby d10_46) rfl ?_
    refine st8 _ ?_
    refine XS.ishr X8.here hx rfl (hb hby d10_50) rfl ?_
    refine XS.i2b X8.here hx rfl (hb hby d10_51) rfl ?_
    refine st10 _ ?_
    show Steps _ _ _ (T10.setTop (mkF m 53 #[rv u0, iv (3 : Int32), iv p2] [])) _
    exact X10.returnOut hx Bd.returns (hb hby d10_53) hr
  · show Q_rmPC4_1 Z u0 p2 kB d0 d1 d2 d3 d4 d5 d6 d7 h0 n0 _ T10.heap _
    rw [e10]
    exact ⟨rfl, N11, K12, V10⟩

theorem ef_rmGC4_1 (m : MethodId) (x0 : Addr) (x1 : Int32) : entryFrame m #[(.ref x0), (.int x1)] 2 = mkF m 0 #[rv x0, iv x1] [] := by first | (simp [entryFrame, mkF, argsToLocals, Value.category]; done) | rfl
set_option maxRecDepth 65536 in
set_option maxHeartbeats 40000000 in
theorem rmGC4_1 (l : Launch) (Z : State) (a0 : Array Value) (hw : ∀ d ∈ tables_1, d.before a0 Z = true) (ws : List Jvm.Cond) (u0 : Addr) (kB : ClassId) (d0 : Int32) (d1 : Int32) (d2 : Int32) (d3 : Int32) (d4 : Int32) (d5 : Int32) (d6 : Int32) (d7 : Int32) (h0 : Heap) (n0 : Nat) (Z0 : n0 ≤ h0.size) (P_S_StringUTF16__assertionsDisabled : Sta Z h0 "java/lang/StringUTF16" "$assertionsDisabled" "Z" (.int (1 : Int32))) (P_S_StringUTF16_HI_BYTE_SHIFT : Sta Z h0 "java/lang/StringUTF16" "HI_BYTE_SHIFT" "I" (.int (0 : Int32))) (P_S_StringUTF16_LO_BYTE_SHIFT : Sta Z h0 "java/lang/StringUTF16" "LO_BYTE_SHIFT" "I" (.int (8 : Int32))) (P_V_u0 : Arv Z h0 u0 kB .byte (8 : Int32) [(.int d0), (.int d1), (.int d2), (.int d3), (.int d4), (.int d5), (.int d6), (.int d7)] (.int (0 : Int32))) :
    MetFree l own_y3 (head1 (Jvm.Cond.code own_y3 jdk_52_method_5_code 2 (some .char) :: ws) ({ frames := 0, cells := 0, slots := 0, locals := 0 } : Room)) (fun a U => a = #[(.ref u0), (.int (1 : Int32))] ∧ Z.Warmed39 U.vm ∧ U.heap = h0) (fun _ _ _ _ _ => True) (fun _ U o U' => ∃ v L, o = .returned v ∧ own_QP (some (.int (own_gc d2 d3))) h0 n0 v U'.heap L ∧ FrameEnd U o U' L ({ frames := 0, cells := 0, slots := 0, locals := 0 } : Room).cells ({ frames := 0, cells := 0, slots := 0, locals := 0 } : Room).slots) := by
  refine MetFree.of_bodySF (plainFor_of_name pn_11) hisR ?_
  intro p e s m args below meth c s₁ Bd hml0 hP hK
  obtain ⟨rfl, hZ, hh⟩ := hP
  have hx := Bd.exec
  have hby := Bd.bytes
  have hml : c.maxLocals = 2 := hml0
  have hown : s.vm.findClass "java/lang/StringUTF16" = some m.cls := findClass_of_methodNamed Bd.named
  have hnm := (name_of_methodNamed Bd.named Bd.method).1
  have X0 : Stand p l e ({ frames := 0, cells := 0, slots := 0, locals := 0 } : Room) s m #[(.ref u0), (.int (1 : Int32))] below meth c s₁ [] 0 0 := Stand.of_body Bd
  have e0 : s₁.heap = h0 := by rw [← hh, Bd.state]; rfl
  have N0 := Fr.nil n0
  have pre0 : ∀ t, Steps p.tables e below (s₁.setTop (mkF m 0 #[rv u0, iv (1 : Int32)] [])) t → Steps p.tables e below (s₁.setTop (entryFrame m #[(.ref u0), (.int (1 : Int32))] 2)) t := fun t k => castTop (ef_rmGC4_1 m u0 (1 : Int32)) k
  obtain ⟨T1, X1, e1, st1⟩ := getS2 X0 hx hZ hown (host := "") (Or.inl (own_g hw 42 rfl)) Via.refl e0 P_S_StringUTF16__assertionsDisabled (g := (mkF m 0 #[rv u0, iv (1 : Int32)] [])) rfl (hb hby d11_0)
  obtain ⟨cl2, Ar2, qq2, S2, N2_, H2, G2⟩ := id P_V_u0
  have hin2 : ¬ ((2 : Int32) < 0 ∨ cl2.slots.size ≤ ((2 : Int32)).toNatClampNeg) := inb_of S2 ⟨by decide, by decide⟩
  have hat2 : cl2.slots[((2 : Int32)).toNatClampNeg]? = some (.int d2) := H2.at hin2 rfl
  obtain ⟨T3, X3, e3, st3⟩ := getS2 X1 hx hZ hown (host := "") (Or.inl (own_g hw 43 rfl)) Via.refl e1 P_S_StringUTF16_HI_BYTE_SHIFT (g := (mkF m 42 #[rv u0, iv (3 : Int32)] [(.int (d2 &&& (255 : Int32)))])) rfl (hb hby d11_42)
  obtain ⟨cl4, Ar4, qq4, S4, N4_, H4, G4⟩ := id P_V_u0
  have hin4 : ¬ ((3 : Int32) < 0 ∨ cl4.slots.size ≤ ((3 : Int32)).toNatClampNeg) := inb_of S4 ⟨by decide, by decide⟩
  have hat4 : cl4.slots[((3 : Int32)).toNatClampNeg]? = some (.int d3) := H4.at hin4 rfl
  obtain ⟨T5, X5, e5, st5⟩ := getS2 X3 hx hZ hown (host := "") (Or.inl (own_g hw 44 rfl)) Via.refl e3 P_S_StringUTF16_LO_BYTE_SHIFT (g := (mkF m 53 #[rv u0, iv (3 : Int32)] [(.int (d3 &&& (255 : Int32))), (.int ((d2 &&& (255 : Int32)) <<< ((0 : Int32) &&& 31)))])) rfl (hb hby d11_53)
  obtain ⟨fs, hr, hrun, hended, hW, hsame⟩ := X5.leave (v := some (.int (nar .char ((((d2 &&& (255 : Int32)) <<< ((0 : Int32) &&& 31)) ||| ((d3 &&& (255 : Int32)) <<< ((8 : Int32) &&& 31))).toUInt32.toUInt16.toUInt32.toInt32)))) (fun h => by rw [Bd.returns] at h; cases h)
  refine ⟨_, _, pre0 _ ?_, hrun, hended, _, _, rfl, ?_, ⟨_, rfl⟩, hW, hsame.mono (by decide) (by decide)⟩
  · refine st1 _ ?_
    refine XS.ifYes X1.here hx rfl (pc0 := 3) (pc' := 28) rfl (hb hby d11_3) rfl ((if0 _ _).trans (feq (by decide : ¬ ((1 : Int32) = (0 : Int32)))).2) (by decide) (by decide) ?_
    refine XS.iloadN X1.here hx rfl (hb hby d11_28) rfl ?_
    refine XS.iconst X1.here hx rfl (hb hby d11_29) ?_
    refine XS.ishl X1.here hx rfl (hb hby d11_30) rfl ?_
    show Steps _ _ _ (T1.setTop (mkF m 31 #[rv u0, iv (1 : Int32)] [(.int ((1 : Int32) <<< ((1 : Int32) &&& 31)))])) _
    rw [(by decide : ((1 : Int32) <<< ((1 : Int32) &&& 31)) = (2 : Int32))]
    refine XS.istoreN X1.here hx rfl (hb hby d11_31) rfl (l' := #[rv u0, iv (2 : Int32)]) rfl ?_
    refine XS.aloadN X1.here hx rfl (hb hby d11_32) rfl rfl ?_
    refine XS.iloadN X1.here hx rfl (hb hby d11_33) rfl ?_
    refine XS.iinc X1.here hx rfl (hb hby d11_34) rfl (l' := #[rv u0, iv (3 : Int32)]) rfl ?_
    refine X1.baloadBytes hx (j := (2 : Int32)) (v := (.int d2)) (by rw [e1]; exact Ar2.1) (State.isArrayOf_alike hZ.alike Ar2.2.1) Ar2.2.2 hin2 hat2 (g := (mkF m 37 #[rv u0, iv (3 : Int32)] [(.int (2 : Int32)), (.ref u0)])) rfl rfl (hb hby d11_37) _ ?_
    refine XS.sipush X1.here hx rfl (hb hby d11_38) ?_
    refine XS.iand X1.here hx rfl (hb hby d11_41) rfl ?_
    refine st3 _ ?_
    refine XS.ishl X3.here hx rfl (hb hby d11_45) rfl ?_
    refine XS.aloadN X3.here hx rfl (hb hby d11_46) rfl rfl ?_
    refine XS.iloadN X3.here hx rfl (hb hby d11_47) rfl ?_
    refine X3.baloadBytes hx (j := (3 : Int32)) (v := (.int d3)) (by rw [e3]; exact Ar4.1) (State.isArrayOf_alike hZ.alike Ar4.2.1) Ar4.2.2 hin4 hat4 (g := (mkF m 48 #[rv u0, iv (3 : Int32)] [(.int (3 : Int32)), (.ref u0), (.int ((d2 &&& (255 : Int32)) <<< ((0 : Int32) &&& 31)))])) rfl rfl (hb hby d11_48) _ ?_
    refine XS.sipush X3.here hx rfl (hb hby d11_49) ?_
    refine XS.iand X3.here hx rfl (hb hby d11_52) rfl ?_
    refine st5 _ ?_
    refine XS.ishl X5.here hx rfl (hb hby d11_56) rfl ?_
    refine XS.ior X5.here hx rfl (hb hby d11_57) rfl ?_
    refine XS.i2c X5.here hx rfl (hb hby d11_58) rfl ?_
    show Steps _ _ _ (T5.setTop (mkF m 59 #[rv u0, iv (3 : Int32)] [(.int ((((d2 &&& (255 : Int32)) <<< ((0 : Int32) &&& 31)) ||| ((d3 &&& (255 : Int32)) <<< ((8 : Int32) &&& 31))).toUInt32.toUInt16.toUInt32.toInt32))])) _
    exact retN X5 hx (t := .char) Bd.returns (by simp) (hb hby d11_59) hr
  · show own_QP (some (.int (own_gc d2 d3))) h0 n0 _ T5.heap _
    rw [e5]
    exact ⟨(by first | rfl | simp []), N0, rfl⟩

theorem ef_rmPC4_2 (m : MethodId) (x0 : Addr) (x1 : Int32) (x2 : Int32) : entryFrame m #[(.ref x0), (.int x1), (.int x2)] 3 = mkF m 0 #[rv x0, iv x1, iv x2] [] := by first | (simp [entryFrame, mkF, argsToLocals, Value.category]; done) | rfl
def Q_rmPC4_2 (Z : State) (u0 : Addr) (p2 : Int32) (kB : ClassId) (d0 : Int32) (d1 : Int32) (d2 : Int32) (d3 : Int32) (d4 : Int32) (d5 : Int32) (d6 : Int32) (d7 : Int32) (h0 : Heap) (n0 : Nat) (v : Option Value) (h : Heap) (L : List Loc) : Prop := (v = none ∧ Fr n0 L ∧ Keep h0 h [u0] ∧ Arv Z h u0 kB .byte (8 : Int32) [(.int d0), (.int d1), (.int d2), (.int d3), (.int (((p2 >>> ((0 : Int32) &&& 31)).toInt8.toInt32).toInt8.toInt32)), (.int (((p2 >>> ((8 : Int32) &&& 31)).toInt8.toInt32).toInt8.toInt32)), (.int d6), (.int d7)] (.int (0 : Int32)))
set_option maxRecDepth 65536 in
set_option maxHeartbeats 40000000 in
theorem rmPC4_2 (l : Launch) (Z : State) (a0 : Array Value) (hw : ∀ d ∈ tables_1, d.before a0 Z = true) (ws : List Jvm.Cond) (u0 : Addr) (p2 : Int32) (kB : ClassId) (d0 : Int32) (d1 : Int32) (d2 : Int32) (d3 : Int32) (d4 : Int32) (d5 : Int32) (d6 : Int32) (d7 : Int32) (h0 : Heap) (n0 : Nat) (Z0 : n0 ≤ h0.size) (P_S_StringUTF16__assertionsDisabled : Sta Z h0 "java/lang/StringUTF16" "$assertionsDisabled" "Z" (.int (1 : Int32))) (P_S_StringUTF16_HI_BYTE_SHIFT : Sta Z h0 "java/lang/StringUTF16" "HI_BYTE_SHIFT" "I" (.int (0 : Int32))) (P_S_StringUTF16_LO_BYTE_SHIFT : Sta Z h0 "java/lang/StringUTF16" "LO_BYTE_SHIFT" "I" (.int (8 : Int32))) (P_V_u0 : Arv Z h0 u0 kB .byte (8 : Int32) [(.int d0), (.int d1), (.int d2), (.int d3), (.int d4), (.int d5), (.int d6), (.int d7)] (.int (0 : Int32))) (g_u0 : n0 ≤ u0) :
    MetFree l own_y2 (head1 (Jvm.Cond.code own_y2 jdk_52_method_4_code 3 none :: ws) ({ frames := 0, cells := 0, slots := 0, locals := 0 } : Room)) (fun a U => a = #[(.ref u0), (.int (2 : Int32)), (.int p2)] ∧ Z.Warmed39 U.vm ∧ U.heap = h0) (fun _ _ _ _ _ => True) (fun _ U o U' => ∃ v L, o = .returned v ∧ Q_rmPC4_2 Z u0 p2 kB d0 d1 d2 d3 d4 d5 d6 d7 h0 n0 v U'.heap L ∧ FrameEnd U o U' L ({ frames := 0, cells := 0, slots := 0, locals := 0 } : Room).cells ({ frames := 0, cells := 0, slots := 0, locals := 0 } : Room).slots) := by
  refine MetFree.of_bodySF (plainFor_of_name pn_10) hisR ?_
  intro p e s m args below meth c s₁ Bd hml0 hP hK
  obtain ⟨rfl, hZ, hh⟩ := hP
  have hx := Bd.exec
  have hby := Bd.bytes
  have hml : c.maxLocals = 3 := hml0
  have hown : s.vm.findClass "java/lang/StringUTF16" = some m.cls := findClass_of_methodNamed Bd.named
  have hnm := (name_of_methodNamed Bd.named Bd.method).1
  have X0 : Stand p l e ({ frames := 0, cells := 0, slots := 0, locals := 0 } : Room) s m #[(.ref u0), (.int (2 : Int32)), (.int p2)] below meth c s₁ [] 0 0 := Stand.of_body Bd
  have e0 : s₁.heap = h0 := by rw [← hh, Bd.state]; rfl
  have N0 := Fr.nil n0
  have pre0 : ∀ t, Steps p.tables e below (s₁.setTop (mkF m 0 #[rv u0, iv (2 : Int32), iv p2] [])) t → Steps p.tables e below (s₁.setTop (entryFrame m #[(.ref u0), (.int (2 : Int32)), (.int p2)] 3)) t := fun t k => castTop (ef_rmPC4_2 m u0 (2 : Int32) p2) k
  obtain ⟨T1, X1, e1, st1⟩ := getS2 X0 hx hZ hown (host := "") (Or.inl (own_g hw 42 rfl)) Via.refl e0 P_S_StringUTF16__assertionsDisabled (g := (mkF m 0 #[rv u0, iv (2 : Int32), iv p2] [])) rfl (hb hby d10_0)
  obtain ⟨T2, X2, e2, st2⟩ := getS2 X1 hx hZ hown (host := "") (Or.inl (own_g hw 43 rfl)) Via.refl e1 P_S_StringUTF16_HI_BYTE_SHIFT (g := (mkF m 38 #[rv u0, iv (5 : Int32), iv p2] [(.int p2), (.int (4 : Int32)), (.ref u0)])) rfl (hb hby d10_38)
  obtain ⟨cl3, Ar3, qq3, S3, N3_, H3, G3⟩ := id P_V_u0
  have hin3 : ¬ ((4 : Int32) < 0 ∨ cl3.slots.size ≤ ((4 : Int32)).toNatClampNeg) := inb_of S3 ⟨by decide, by decide⟩
  obtain ⟨T4, h4, X4, e4, W4, st4⟩ := stB X2 hx hZ e2 Ar3 (j := (4 : Int32)) hin3 (g := (mkF m 43 #[rv u0, iv (5 : Int32), iv p2] [(.int ((p2 >>> ((0 : Int32) &&& 31)).toInt8.toInt32)), (.int (4 : Int32)), (.ref u0)])) rfl rfl (hb hby d10_43)
  have V4 : Arv Z h4 u0 kB .byte (8 : Int32) [(.int d0), (.int d1), (.int d2), (.int d3), (.int (((p2 >>> ((0 : Int32) &&& 31)).toInt8.toInt32).toInt8.toInt32)), (.int d5), (.int d6), (.int d7)] (.int (0 : Int32)) := Arv.set Ar3 qq3 S3 N3_ H3 G3 (fits_nar_byte _) W4 4 rfl (Nat.le_of_ble_eq_true rfl)
  have N5 := Fr.snoc X4 N0 g_u0
  have K6 : Keep h0 h4 [u0] := (Keep.refl h0 [u0]).wr W4 (Or.inl (List.mem_of_getElem? (i := 0) rfl))
  have f7 : Sta Z h4 "java/lang/StringUTF16" "LO_BYTE_SHIFT" "I" (.int (8 : Int32)) := (P_S_StringUTF16_LO_BYTE_SHIFT.wr W4)
  obtain ⟨T8, X8, e8, st8⟩ := getS2 X4 hx hZ hown (host := "") (Or.inl (own_g hw 44 rfl)) Via.refl e4 f7 (g := (mkF m 47 #[rv u0, iv (5 : Int32), iv p2] [(.int p2), (.int (5 : Int32)), (.ref u0)])) rfl (hb hby d10_47)
  obtain ⟨cl9, Ar9, qq9, S9, N9_, H9, G9⟩ := id V4
  have hin9 : ¬ ((5 : Int32) < 0 ∨ cl9.slots.size ≤ ((5 : Int32)).toNatClampNeg) := inb_of S9 ⟨by decide, by decide⟩
  obtain ⟨T10, h10, X10, e10, W10, st10⟩ := stB X8 hx hZ e8 Ar9 (j := (5 : Int32)) hin9 (g := (mkF m 52 #[rv u0, iv (5 : Int32), iv p2] [(.int ((p2 >>> ((8 : Int32) &&& 31)).toInt8.toInt32)), (.int (5 : Int32)), (.ref u0)])) rfl rfl (hb hby d10_52)
  have V10 : Arv Z h10 u0 kB .byte (8 : Int32) [(.int d0), (.int d1), (.int d2), (.int d3), (.int (((p2 >>> ((0 : Int32) &&& 31)).toInt8.toInt32).toInt8.toInt32)), (.int (((p2 >>> ((8 : Int32) &&& 31)).toInt8.toInt32).toInt8.toInt32)), (.int d6), (.int d7)] (.int (0 : Int32)) := Arv.set Ar9 qq9 S9 N9_ H9 G9 (fits_nar_byte _) W10 5 rfl (Nat.le_of_ble_eq_true rfl)
  have N11 := Fr.snoc X10 N5 g_u0
  have K12 : Keep h0 h10 [u0] := K6.wr W10 (Or.inl (List.mem_of_getElem? (i := 0) rfl))
  obtain ⟨fs, hr, hrun, hended, hW, hsame⟩ := X10.leave (v := none) (fun _ => rfl)
  refine ⟨_, _, pre0 _ ?_, hrun, hended, _, _, rfl, ?_, ⟨_, rfl⟩, hW, hsame.mono (by decide) (by decide)⟩
  · refine st1 _ ?_
    refine XS.ifYes X1.here hx rfl (pc0 := 3) (pc' := 28) rfl (hb hby d10_3) rfl ((if0 _ _).trans (feq (by decide : ¬ ((1 : Int32) = (0 : Int32)))).2) (by decide) (by decide) ?_
    refine XS.iloadN X1.here hx rfl (hb hby d10_28) rfl ?_
    refine XS.iconst X1.here hx rfl (hb hby d10_29) ?_
    refine XS.ishl X1.here hx rfl (hb hby d10_30) rfl ?_
    show Steps _ _ _ (T1.setTop (mkF m 31 #[rv u0, iv (2 : Int32), iv p2] [(.int ((2 : Int32) <<< ((1 : Int32) &&& 31)))])) _
    rw [(by decide : ((2 : Int32) <<< ((1 : Int32) &&& 31)) = (4 : Int32))]
    refine XS.istoreN X1.here hx rfl (hb hby d10_31) rfl (l' := #[rv u0, iv (4 : Int32), iv p2]) rfl ?_
    refine XS.aloadN X1.here hx rfl (hb hby d10_32) rfl rfl ?_
    refine XS.iloadN X1.here hx rfl (hb hby d10_33) rfl ?_
    refine XS.iinc X1.here hx rfl (hb hby d10_34) rfl (l' := #[rv u0, iv (5 : Int32), iv p2]) rfl ?_
    refine XS.iloadN X1.here hx rfl (hb hby d10_37) rfl ?_
    refine st2 _ ?_
    refine XS.ishr X2.here hx rfl (hb hby d10_41) rfl ?_
    refine XS.i2b X2.here hx rfl (hb hby d10_42) rfl ?_
    refine st4 _ ?_
    refine XS.aloadN X4.here hx rfl (hb hby d10_44) rfl rfl ?_
    refine XS.iloadN X4.here hx rfl (hb hby d10_45) rfl ?_
    refine XS.iloadN X4.here hx rfl (hb hby d10_46) rfl ?_
    refine st8 _ ?_
    refine XS.ishr X8.here hx rfl (hb hby d10_50) rfl ?_
    refine XS.i2b X8.here hx rfl (hb hby d10_51) rfl ?_
    refine st10 _ ?_
    show Steps _ _ _ (T10.setTop (mkF m 53 #[rv u0, iv (5 : Int32), iv p2] [])) _
    exact X10.returnOut hx Bd.returns (hb hby d10_53) hr
  · show Q_rmPC4_2 Z u0 p2 kB d0 d1 d2 d3 d4 d5 d6 d7 h0 n0 _ T10.heap _
    rw [e10]
    exact ⟨rfl, N11, K12, V10⟩

theorem ef_rmGC4_2 (m : MethodId) (x0 : Addr) (x1 : Int32) : entryFrame m #[(.ref x0), (.int x1)] 2 = mkF m 0 #[rv x0, iv x1] [] := by first | (simp [entryFrame, mkF, argsToLocals, Value.category]; done) | rfl
set_option maxRecDepth 65536 in
set_option maxHeartbeats 40000000 in
theorem rmGC4_2 (l : Launch) (Z : State) (a0 : Array Value) (hw : ∀ d ∈ tables_1, d.before a0 Z = true) (ws : List Jvm.Cond) (u0 : Addr) (kB : ClassId) (d0 : Int32) (d1 : Int32) (d2 : Int32) (d3 : Int32) (d4 : Int32) (d5 : Int32) (d6 : Int32) (d7 : Int32) (h0 : Heap) (n0 : Nat) (Z0 : n0 ≤ h0.size) (P_S_StringUTF16__assertionsDisabled : Sta Z h0 "java/lang/StringUTF16" "$assertionsDisabled" "Z" (.int (1 : Int32))) (P_S_StringUTF16_HI_BYTE_SHIFT : Sta Z h0 "java/lang/StringUTF16" "HI_BYTE_SHIFT" "I" (.int (0 : Int32))) (P_S_StringUTF16_LO_BYTE_SHIFT : Sta Z h0 "java/lang/StringUTF16" "LO_BYTE_SHIFT" "I" (.int (8 : Int32))) (P_V_u0 : Arv Z h0 u0 kB .byte (8 : Int32) [(.int d0), (.int d1), (.int d2), (.int d3), (.int d4), (.int d5), (.int d6), (.int d7)] (.int (0 : Int32))) :
    MetFree l own_y3 (head1 (Jvm.Cond.code own_y3 jdk_52_method_5_code 2 (some .char) :: ws) ({ frames := 0, cells := 0, slots := 0, locals := 0 } : Room)) (fun a U => a = #[(.ref u0), (.int (2 : Int32))] ∧ Z.Warmed39 U.vm ∧ U.heap = h0) (fun _ _ _ _ _ => True) (fun _ U o U' => ∃ v L, o = .returned v ∧ own_QP (some (.int (own_gc d4 d5))) h0 n0 v U'.heap L ∧ FrameEnd U o U' L ({ frames := 0, cells := 0, slots := 0, locals := 0 } : Room).cells ({ frames := 0, cells := 0, slots := 0, locals := 0 } : Room).slots) := by
  refine MetFree.of_bodySF (plainFor_of_name pn_11) hisR ?_
  intro p e s m args below meth c s₁ Bd hml0 hP hK
  obtain ⟨rfl, hZ, hh⟩ := hP
  have hx := Bd.exec
  have hby := Bd.bytes
  have hml : c.maxLocals = 2 := hml0
  have hown : s.vm.findClass "java/lang/StringUTF16" = some m.cls := findClass_of_methodNamed Bd.named
  have hnm := (name_of_methodNamed Bd.named Bd.method).1
  have X0 : Stand p l e ({ frames := 0, cells := 0, slots := 0, locals := 0 } : Room) s m #[(.ref u0), (.int (2 : Int32))] below meth c s₁ [] 0 0 := Stand.of_body Bd
  have e0 : s₁.heap = h0 := by rw [← hh, Bd.state]; rfl
  have N0 := Fr.nil n0
  have pre0 : ∀ t, Steps p.tables e below (s₁.setTop (mkF m 0 #[rv u0, iv (2 : Int32)] [])) t → Steps p.tables e below (s₁.setTop (entryFrame m #[(.ref u0), (.int (2 : Int32))] 2)) t := fun t k => castTop (ef_rmGC4_2 m u0 (2 : Int32)) k
  obtain ⟨T1, X1, e1, st1⟩ := getS2 X0 hx hZ hown (host := "") (Or.inl (own_g hw 42 rfl)) Via.refl e0 P_S_StringUTF16__assertionsDisabled (g := (mkF m 0 #[rv u0, iv (2 : Int32)] [])) rfl (hb hby d11_0)
  obtain ⟨cl2, Ar2, qq2, S2, N2_, H2, G2⟩ := id P_V_u0
  have hin2 : ¬ ((4 : Int32) < 0 ∨ cl2.slots.size ≤ ((4 : Int32)).toNatClampNeg) := inb_of S2 ⟨by decide, by decide⟩
  have hat2 : cl2.slots[((4 : Int32)).toNatClampNeg]? = some (.int d4) := H2.at hin2 rfl
  obtain ⟨T3, X3, e3, st3⟩ := getS2 X1 hx hZ hown (host := "") (Or.inl (own_g hw 43 rfl)) Via.refl e1 P_S_StringUTF16_HI_BYTE_SHIFT (g := (mkF m 42 #[rv u0, iv (5 : Int32)] [(.int (d4 &&& (255 : Int32)))])) rfl (hb hby d11_42)
  obtain ⟨cl4, Ar4, qq4, S4, N4_, H4, G4⟩ := id P_V_u0
  have hin4 : ¬ ((5 : Int32) < 0 ∨ cl4.slots.size ≤ ((5 : Int32)).toNatClampNeg) := inb_of S4 ⟨by decide, by decide⟩
  have hat4 : cl4.slots[((5 : Int32)).toNatClampNeg]? = some (.int d5) := H4.at hin4 rfl
  obtain ⟨T5, X5, e5, st5⟩ := getS2 X3 hx hZ hown (host := "") (Or.inl (own_g hw 44 rfl)) Via.refl e3 P_S_StringUTF16_LO_BYTE_SHIFT (g := (mkF m 53 #[rv u0, iv (5 : Int32)] [(.int (d5 &&& (255 : Int32))), (.int ((d4 &&& (255 : Int32)) <<< ((0 : Int32) &&& 31)))])) rfl (hb hby d11_53)
  obtain ⟨fs, hr, hrun, hended, hW, hsame⟩ := X5.leave (v := some (.int (nar .char ((((d4 &&& (255 : Int32)) <<< ((0 : Int32) &&& 31)) ||| ((d5 &&& (255 : Int32)) <<< ((8 : Int32) &&& 31))).toUInt32.toUInt16.toUInt32.toInt32)))) (fun h => by rw [Bd.returns] at h; cases h)
  refine ⟨_, _, pre0 _ ?_, hrun, hended, _, _, rfl, ?_, ⟨_, rfl⟩, hW, hsame.mono (by decide) (by decide)⟩
  · refine st1 _ ?_
    refine XS.ifYes X1.here hx rfl (pc0 := 3) (pc' := 28) rfl (hb hby d11_3) rfl ((if0 _ _).trans (feq (by decide : ¬ ((1 : Int32) = (0 : Int32)))).2) (by decide) (by decide) ?_
    refine XS.iloadN X1.here hx rfl (hb hby d11_28) rfl ?_
    refine XS.iconst X1.here hx rfl (hb hby d11_29) ?_
    refine XS.ishl X1.here hx rfl (hb hby d11_30) rfl ?_
    show Steps _ _ _ (T1.setTop (mkF m 31 #[rv u0, iv (2 : Int32)] [(.int ((2 : Int32) <<< ((1 : Int32) &&& 31)))])) _
    rw [(by decide : ((2 : Int32) <<< ((1 : Int32) &&& 31)) = (4 : Int32))]
    refine XS.istoreN X1.here hx rfl (hb hby d11_31) rfl (l' := #[rv u0, iv (4 : Int32)]) rfl ?_
    refine XS.aloadN X1.here hx rfl (hb hby d11_32) rfl rfl ?_
    refine XS.iloadN X1.here hx rfl (hb hby d11_33) rfl ?_
    refine XS.iinc X1.here hx rfl (hb hby d11_34) rfl (l' := #[rv u0, iv (5 : Int32)]) rfl ?_
    refine X1.baloadBytes hx (j := (4 : Int32)) (v := (.int d4)) (by rw [e1]; exact Ar2.1) (State.isArrayOf_alike hZ.alike Ar2.2.1) Ar2.2.2 hin2 hat2 (g := (mkF m 37 #[rv u0, iv (5 : Int32)] [(.int (4 : Int32)), (.ref u0)])) rfl rfl (hb hby d11_37) _ ?_
    refine XS.sipush X1.here hx rfl (hb hby d11_38) ?_
    refine XS.iand X1.here hx rfl (hb hby d11_41) rfl ?_
    refine st3 _ ?_
    refine XS.ishl X3.here hx rfl (hb hby d11_45) rfl ?_
    refine XS.aloadN X3.here hx rfl (hb hby d11_46) rfl rfl ?_
    refine XS.iloadN X3.here hx rfl (hb hby d11_47) rfl ?_
    refine X3.baloadBytes hx (j := (5 : Int32)) (v := (.int d5)) (by rw [e3]; exact Ar4.1) (State.isArrayOf_alike hZ.alike Ar4.2.1) Ar4.2.2 hin4 hat4 (g := (mkF m 48 #[rv u0, iv (5 : Int32)] [(.int (5 : Int32)), (.ref u0), (.int ((d4 &&& (255 : Int32)) <<< ((0 : Int32) &&& 31)))])) rfl rfl (hb hby d11_48) _ ?_
    refine XS.sipush X3.here hx rfl (hb hby d11_49) ?_
    refine XS.iand X3.here hx rfl (hb hby d11_52) rfl ?_
    refine st5 _ ?_
    refine XS.ishl X5.here hx rfl (hb hby d11_56) rfl ?_
    refine XS.ior X5.here hx rfl (hb hby d11_57) rfl ?_
    refine XS.i2c X5.here hx rfl (hb hby d11_58) rfl ?_
    show Steps _ _ _ (T5.setTop (mkF m 59 #[rv u0, iv (5 : Int32)] [(.int ((((d4 &&& (255 : Int32)) <<< ((0 : Int32) &&& 31)) ||| ((d5 &&& (255 : Int32)) <<< ((8 : Int32) &&& 31))).toUInt32.toUInt16.toUInt32.toInt32))])) _
    exact retN X5 hx (t := .char) Bd.returns (by simp) (hb hby d11_59) hr
  · show own_QP (some (.int (own_gc d4 d5))) h0 n0 _ T5.heap _
    rw [e5]
    exact ⟨(by first | rfl | simp []), N0, rfl⟩

theorem ef_rmPC4_3 (m : MethodId) (x0 : Addr) (x1 : Int32) (x2 : Int32) : entryFrame m #[(.ref x0), (.int x1), (.int x2)] 3 = mkF m 0 #[rv x0, iv x1, iv x2] [] := by first | (simp [entryFrame, mkF, argsToLocals, Value.category]; done) | rfl
def Q_rmPC4_3 (Z : State) (u0 : Addr) (p2 : Int32) (kB : ClassId) (d0 : Int32) (d1 : Int32) (d2 : Int32) (d3 : Int32) (d4 : Int32) (d5 : Int32) (d6 : Int32) (d7 : Int32) (h0 : Heap) (n0 : Nat) (v : Option Value) (h : Heap) (L : List Loc) : Prop := (v = none ∧ Fr n0 L ∧ Keep h0 h [u0] ∧ Arv Z h u0 kB .byte (8 : Int32) [(.int d0), (.int d1), (.int d2), (.int d3), (.int d4), (.int d5), (.int (((p2 >>> ((0 : Int32) &&& 31)).toInt8.toInt32).toInt8.toInt32)), (.int (((p2 >>> ((8 : Int32) &&& 31)).toInt8.toInt32).toInt8.toInt32))] (.int (0 : Int32)))
set_option maxRecDepth 65536 in
set_option maxHeartbeats 40000000 in
theorem rmPC4_3 (l : Launch) (Z : State) (a0 : Array Value) (hw : ∀ d ∈ tables_1, d.before a0 Z = true) (ws : List Jvm.Cond) (u0 : Addr) (p2 : Int32) (kB : ClassId) (d0 : Int32) (d1 : Int32) (d2 : Int32) (d3 : Int32) (d4 : Int32) (d5 : Int32) (d6 : Int32) (d7 : Int32) (h0 : Heap) (n0 : Nat) (Z0 : n0 ≤ h0.size) (P_S_StringUTF16__assertionsDisabled : Sta Z h0 "java/lang/StringUTF16" "$assertionsDisabled" "Z" (.int (1 : Int32))) (P_S_StringUTF16_HI_BYTE_SHIFT : Sta Z h0 "java/lang/StringUTF16" "HI_BYTE_SHIFT" "I" (.int (0 : Int32))) (P_S_StringUTF16_LO_BYTE_SHIFT : Sta Z h0 "java/lang/StringUTF16" "LO_BYTE_SHIFT" "I" (.int (8 : Int32))) (P_V_u0 : Arv Z h0 u0 kB .byte (8 : Int32) [(.int d0), (.int d1), (.int d2), (.int d3), (.int d4), (.int d5), (.int d6), (.int d7)] (.int (0 : Int32))) (g_u0 : n0 ≤ u0) :
    MetFree l own_y2 (head1 (Jvm.Cond.code own_y2 jdk_52_method_4_code 3 none :: ws) ({ frames := 0, cells := 0, slots := 0, locals := 0 } : Room)) (fun a U => a = #[(.ref u0), (.int (3 : Int32)), (.int p2)] ∧ Z.Warmed39 U.vm ∧ U.heap = h0) (fun _ _ _ _ _ => True) (fun _ U o U' => ∃ v L, o = .returned v ∧ Q_rmPC4_3 Z u0 p2 kB d0 d1 d2 d3 d4 d5 d6 d7 h0 n0 v U'.heap L ∧ FrameEnd U o U' L ({ frames := 0, cells := 0, slots := 0, locals := 0 } : Room).cells ({ frames := 0, cells := 0, slots := 0, locals := 0 } : Room).slots) := by
  refine MetFree.of_bodySF (plainFor_of_name pn_10) hisR ?_
  intro p e s m args below meth c s₁ Bd hml0 hP hK
  obtain ⟨rfl, hZ, hh⟩ := hP
  have hx := Bd.exec
  have hby := Bd.bytes
  have hml : c.maxLocals = 3 := hml0
  have hown : s.vm.findClass "java/lang/StringUTF16" = some m.cls := findClass_of_methodNamed Bd.named
  have hnm := (name_of_methodNamed Bd.named Bd.method).1
  have X0 : Stand p l e ({ frames := 0, cells := 0, slots := 0, locals := 0 } : Room) s m #[(.ref u0), (.int (3 : Int32)), (.int p2)] below meth c s₁ [] 0 0 := Stand.of_body Bd
  have e0 : s₁.heap = h0 := by rw [← hh, Bd.state]; rfl
  have N0 := Fr.nil n0
  have pre0 : ∀ t, Steps p.tables e below (s₁.setTop (mkF m 0 #[rv u0, iv (3 : Int32), iv p2] [])) t → Steps p.tables e below (s₁.setTop (entryFrame m #[(.ref u0), (.int (3 : Int32)), (.int p2)] 3)) t := fun t k => castTop (ef_rmPC4_3 m u0 (3 : Int32) p2) k
  obtain ⟨T1, X1, e1, st1⟩ := getS2 X0 hx hZ hown (host := "") (Or.inl (own_g hw 42 rfl)) Via.refl e0 P_S_StringUTF16__assertionsDisabled (g := (mkF m 0 #[rv u0, iv (3 : Int32), iv p2] [])) rfl (hb hby d10_0)
  obtain ⟨T2, X2, e2, st2⟩ := getS2 X1 hx hZ hown (host := "") (Or.inl (own_g hw 43 rfl)) Via.refl e1 P_S_StringUTF16_HI_BYTE_SHIFT (g := (mkF m 38 #[rv u0, iv (7 : Int32), iv p2] [(.int p2), (.int (6 : Int32)), (.ref u0)])) rfl (hb hby d10_38)
  obtain ⟨cl3, Ar3, qq3, S3, N3_, H3, G3⟩ := id P_V_u0
  have hin3 : ¬ ((6 : Int32) < 0 ∨ cl3.slots.size ≤ ((6 : Int32)).toNatClampNeg) := inb_of S3 ⟨by decide, by decide⟩
  obtain ⟨T4, h4, X4, e4, W4, st4⟩ := stB X2 hx hZ e2 Ar3 (j := (6 : Int32)) hin3 (g := (mkF m 43 #[rv u0, iv (7 : Int32), iv p2] [(.int ((p2 >>> ((0 : Int32) &&& 31)).toInt8.toInt32)), (.int (6 : Int32)), (.ref u0)])) rfl rfl (hb hby d10_43)
  have V4 : Arv Z h4 u0 kB .byte (8 : Int32) [(.int d0), (.int d1), (.int d2), (.int d3), (.int d4), (.int d5), (.int (((p2 >>> ((0 : Int32) &&& 31)).toInt8.toInt32).toInt8.toInt32)), (.int d7)] (.int (0 : Int32)) := Arv.set Ar3 qq3 S3 N3_ H3 G3 (fits_nar_byte _) W4 6 rfl (Nat.le_of_ble_eq_true rfl)
  have N5 := Fr.snoc X4 N0 g_u0
  have K6 : Keep h0 h4 [u0] := (Keep.refl h0 [u0]).wr W4 (Or.inl (List.mem_of_getElem? (i := 0) rfl))
  have f7 : Sta Z h4 "java/lang/StringUTF16" "LO_BYTE_SHIFT" "I" (.int (8 : Int32)) := (P_S_StringUTF16_LO_BYTE_SHIFT.wr W4)
  obtain ⟨T8, X8, e8, st8⟩ := getS2 X4 hx hZ hown (host := "") (Or.inl (own_g hw 44 rfl)) Via.refl e4 f7 (g := (mkF m 47 #[rv u0, iv (7 : Int32), iv p2] [(.int p2), (.int (7 : Int32)), (.ref u0)])) rfl (hb hby d10_47)
  obtain ⟨cl9, Ar9, qq9, S9, N9_, H9, G9⟩ := id V4
  have hin9 : ¬ ((7 : Int32) < 0 ∨ cl9.slots.size ≤ ((7 : Int32)).toNatClampNeg) := inb_of S9 ⟨by decide, by decide⟩
  obtain ⟨T10, h10, X10, e10, W10, st10⟩ := stB X8 hx hZ e8 Ar9 (j := (7 : Int32)) hin9 (g := (mkF m 52 #[rv u0, iv (7 : Int32), iv p2] [(.int ((p2 >>> ((8 : Int32) &&& 31)).toInt8.toInt32)), (.int (7 : Int32)), (.ref u0)])) rfl rfl (hb hby d10_52)
  have V10 : Arv Z h10 u0 kB .byte (8 : Int32) [(.int d0), (.int d1), (.int d2), (.int d3), (.int d4), (.int d5), (.int (((p2 >>> ((0 : Int32) &&& 31)).toInt8.toInt32).toInt8.toInt32)), (.int (((p2 >>> ((8 : Int32) &&& 31)).toInt8.toInt32).toInt8.toInt32))] (.int (0 : Int32)) := Arv.set Ar9 qq9 S9 N9_ H9 G9 (fits_nar_byte _) W10 7 rfl (Nat.le_of_ble_eq_true rfl)
  have N11 := Fr.snoc X10 N5 g_u0
  have K12 : Keep h0 h10 [u0] := K6.wr W10 (Or.inl (List.mem_of_getElem? (i := 0) rfl))
  obtain ⟨fs, hr, hrun, hended, hW, hsame⟩ := X10.leave (v := none) (fun _ => rfl)
  refine ⟨_, _, pre0 _ ?_, hrun, hended, _, _, rfl, ?_, ⟨_, rfl⟩, hW, hsame.mono (by decide) (by decide)⟩
  · refine st1 _ ?_
    refine XS.ifYes X1.here hx rfl (pc0 := 3) (pc' := 28) rfl (hb hby d10_3) rfl ((if0 _ _).trans (feq (by decide : ¬ ((1 : Int32) = (0 : Int32)))).2) (by decide) (by decide) ?_
    refine XS.iloadN X1.here hx rfl (hb hby d10_28) rfl ?_
    refine XS.iconst X1.here hx rfl (hb hby d10_29) ?_
    refine XS.ishl X1.here hx rfl (hb hby d10_30) rfl ?_
    show Steps _ _ _ (T1.setTop (mkF m 31 #[rv u0, iv (3 : Int32), iv p2] [(.int ((3 : Int32) <<< ((1 : Int32) &&& 31)))])) _
    rw [(by decide : ((3 : Int32) <<< ((1 : Int32) &&& 31)) = (6 : Int32))]
    refine XS.istoreN X1.here hx rfl (hb hby d10_31) rfl (l' := #[rv u0, iv (6 : Int32), iv p2]) rfl ?_
    refine XS.aloadN X1.here hx rfl (hb hby d10_32) rfl rfl ?_
    refine XS.iloadN X1.here hx rfl (hb hby d10_33) rfl ?_
    refine XS.iinc X1.here hx rfl (hb hby d10_34) rfl (l' := #[rv u0, iv (7 : Int32), iv p2]) rfl ?_
    refine XS.iloadN X1.here hx rfl (hb hby d10_37) rfl ?_
    refine st2 _ ?_
    refine XS.ishr X2.here hx rfl (hb hby d10_41) rfl ?_
    refine XS.i2b X2.here hx rfl (hb hby d10_42) rfl ?_
    refine st4 _ ?_
    refine XS.aloadN X4.here hx rfl (hb hby d10_44) rfl rfl ?_
    refine XS.iloadN X4.here hx rfl (hb hby d10_45) rfl ?_
    refine XS.iloadN X4.here hx rfl (hb hby d10_46) rfl ?_
    refine st8 _ ?_
    refine XS.ishr X8.here hx rfl (hb hby d10_50) rfl ?_
    refine XS.i2b X8.here hx rfl (hb hby d10_51) rfl ?_
    refine st10 _ ?_
    show Steps _ _ _ (T10.setTop (mkF m 53 #[rv u0, iv (7 : Int32), iv p2] [])) _
    exact X10.returnOut hx Bd.returns (hb hby d10_53) hr
  · show Q_rmPC4_3 Z u0 p2 kB d0 d1 d2 d3 d4 d5 d6 d7 h0 n0 _ T10.heap _
    rw [e10]
    exact ⟨rfl, N11, K12, V10⟩

theorem ef_rmGC4_3 (m : MethodId) (x0 : Addr) (x1 : Int32) : entryFrame m #[(.ref x0), (.int x1)] 2 = mkF m 0 #[rv x0, iv x1] [] := by first | (simp [entryFrame, mkF, argsToLocals, Value.category]; done) | rfl
set_option maxRecDepth 65536 in
set_option maxHeartbeats 40000000 in
theorem rmGC4_3 (l : Launch) (Z : State) (a0 : Array Value) (hw : ∀ d ∈ tables_1, d.before a0 Z = true) (ws : List Jvm.Cond) (u0 : Addr) (kB : ClassId) (d0 : Int32) (d1 : Int32) (d2 : Int32) (d3 : Int32) (d4 : Int32) (d5 : Int32) (d6 : Int32) (d7 : Int32) (h0 : Heap) (n0 : Nat) (Z0 : n0 ≤ h0.size) (P_S_StringUTF16__assertionsDisabled : Sta Z h0 "java/lang/StringUTF16" "$assertionsDisabled" "Z" (.int (1 : Int32))) (P_S_StringUTF16_HI_BYTE_SHIFT : Sta Z h0 "java/lang/StringUTF16" "HI_BYTE_SHIFT" "I" (.int (0 : Int32))) (P_S_StringUTF16_LO_BYTE_SHIFT : Sta Z h0 "java/lang/StringUTF16" "LO_BYTE_SHIFT" "I" (.int (8 : Int32))) (P_V_u0 : Arv Z h0 u0 kB .byte (8 : Int32) [(.int d0), (.int d1), (.int d2), (.int d3), (.int d4), (.int d5), (.int d6), (.int d7)] (.int (0 : Int32))) :
    MetFree l own_y3 (head1 (Jvm.Cond.code own_y3 jdk_52_method_5_code 2 (some .char) :: ws) ({ frames := 0, cells := 0, slots := 0, locals := 0 } : Room)) (fun a U => a = #[(.ref u0), (.int (3 : Int32))] ∧ Z.Warmed39 U.vm ∧ U.heap = h0) (fun _ _ _ _ _ => True) (fun _ U o U' => ∃ v L, o = .returned v ∧ own_QP (some (.int (own_gc d6 d7))) h0 n0 v U'.heap L ∧ FrameEnd U o U' L ({ frames := 0, cells := 0, slots := 0, locals := 0 } : Room).cells ({ frames := 0, cells := 0, slots := 0, locals := 0 } : Room).slots) := by
  refine MetFree.of_bodySF (plainFor_of_name pn_11) hisR ?_
  intro p e s m args below meth c s₁ Bd hml0 hP hK
  obtain ⟨rfl, hZ, hh⟩ := hP
  have hx := Bd.exec
  have hby := Bd.bytes
  have hml : c.maxLocals = 2 := hml0
  have hown : s.vm.findClass "java/lang/StringUTF16" = some m.cls := findClass_of_methodNamed Bd.named
  have hnm := (name_of_methodNamed Bd.named Bd.method).1
  have X0 : Stand p l e ({ frames := 0, cells := 0, slots := 0, locals := 0 } : Room) s m #[(.ref u0), (.int (3 : Int32))] below meth c s₁ [] 0 0 := Stand.of_body Bd
  have e0 : s₁.heap = h0 := by rw [← hh, Bd.state]; rfl
  have N0 := Fr.nil n0
  have pre0 : ∀ t, Steps p.tables e below (s₁.setTop (mkF m 0 #[rv u0, iv (3 : Int32)] [])) t → Steps p.tables e below (s₁.setTop (entryFrame m #[(.ref u0), (.int (3 : Int32))] 2)) t := fun t k => castTop (ef_rmGC4_3 m u0 (3 : Int32)) k
  obtain ⟨T1, X1, e1, st1⟩ := getS2 X0 hx hZ hown (host := "") (Or.inl (own_g hw 42 rfl)) Via.refl e0 P_S_StringUTF16__assertionsDisabled (g := (mkF m 0 #[rv u0, iv (3 : Int32)] [])) rfl (hb hby d11_0)
  obtain ⟨cl2, Ar2, qq2, S2, N2_, H2, G2⟩ := id P_V_u0
  have hin2 : ¬ ((6 : Int32) < 0 ∨ cl2.slots.size ≤ ((6 : Int32)).toNatClampNeg) := inb_of S2 ⟨by decide, by decide⟩
  have hat2 : cl2.slots[((6 : Int32)).toNatClampNeg]? = some (.int d6) := H2.at hin2 rfl
  obtain ⟨T3, X3, e3, st3⟩ := getS2 X1 hx hZ hown (host := "") (Or.inl (own_g hw 43 rfl)) Via.refl e1 P_S_StringUTF16_HI_BYTE_SHIFT (g := (mkF m 42 #[rv u0, iv (7 : Int32)] [(.int (d6 &&& (255 : Int32)))])) rfl (hb hby d11_42)
  obtain ⟨cl4, Ar4, qq4, S4, N4_, H4, G4⟩ := id P_V_u0
  have hin4 : ¬ ((7 : Int32) < 0 ∨ cl4.slots.size ≤ ((7 : Int32)).toNatClampNeg) := inb_of S4 ⟨by decide, by decide⟩
  have hat4 : cl4.slots[((7 : Int32)).toNatClampNeg]? = some (.int d7) := H4.at hin4 rfl
  obtain ⟨T5, X5, e5, st5⟩ := getS2 X3 hx hZ hown (host := "") (Or.inl (own_g hw 44 rfl)) Via.refl e3 P_S_StringUTF16_LO_BYTE_SHIFT (g := (mkF m 53 #[rv u0, iv (7 : Int32)] [(.int (d7 &&& (255 : Int32))), (.int ((d6 &&& (255 : Int32)) <<< ((0 : Int32) &&& 31)))])) rfl (hb hby d11_53)
  obtain ⟨fs, hr, hrun, hended, hW, hsame⟩ := X5.leave (v := some (.int (nar .char ((((d6 &&& (255 : Int32)) <<< ((0 : Int32) &&& 31)) ||| ((d7 &&& (255 : Int32)) <<< ((8 : Int32) &&& 31))).toUInt32.toUInt16.toUInt32.toInt32)))) (fun h => by rw [Bd.returns] at h; cases h)
  refine ⟨_, _, pre0 _ ?_, hrun, hended, _, _, rfl, ?_, ⟨_, rfl⟩, hW, hsame.mono (by decide) (by decide)⟩
  · refine st1 _ ?_
    refine XS.ifYes X1.here hx rfl (pc0 := 3) (pc' := 28) rfl (hb hby d11_3) rfl ((if0 _ _).trans (feq (by decide : ¬ ((1 : Int32) = (0 : Int32)))).2) (by decide) (by decide) ?_
    refine XS.iloadN X1.here hx rfl (hb hby d11_28) rfl ?_
    refine XS.iconst X1.here hx rfl (hb hby d11_29) ?_
    refine XS.ishl X1.here hx rfl (hb hby d11_30) rfl ?_
    show Steps _ _ _ (T1.setTop (mkF m 31 #[rv u0, iv (3 : Int32)] [(.int ((3 : Int32) <<< ((1 : Int32) &&& 31)))])) _
    rw [(by decide : ((3 : Int32) <<< ((1 : Int32) &&& 31)) = (6 : Int32))]
    refine XS.istoreN X1.here hx rfl (hb hby d11_31) rfl (l' := #[rv u0, iv (6 : Int32)]) rfl ?_
    refine XS.aloadN X1.here hx rfl (hb hby d11_32) rfl rfl ?_
    refine XS.iloadN X1.here hx rfl (hb hby d11_33) rfl ?_
    refine XS.iinc X1.here hx rfl (hb hby d11_34) rfl (l' := #[rv u0, iv (7 : Int32)]) rfl ?_
    refine X1.baloadBytes hx (j := (6 : Int32)) (v := (.int d6)) (by rw [e1]; exact Ar2.1) (State.isArrayOf_alike hZ.alike Ar2.2.1) Ar2.2.2 hin2 hat2 (g := (mkF m 37 #[rv u0, iv (7 : Int32)] [(.int (6 : Int32)), (.ref u0)])) rfl rfl (hb hby d11_37) _ ?_
    refine XS.sipush X1.here hx rfl (hb hby d11_38) ?_
    refine XS.iand X1.here hx rfl (hb hby d11_41) rfl ?_
    refine st3 _ ?_
    refine XS.ishl X3.here hx rfl (hb hby d11_45) rfl ?_
    refine XS.aloadN X3.here hx rfl (hb hby d11_46) rfl rfl ?_
    refine XS.iloadN X3.here hx rfl (hb hby d11_47) rfl ?_
    refine X3.baloadBytes hx (j := (7 : Int32)) (v := (.int d7)) (by rw [e3]; exact Ar4.1) (State.isArrayOf_alike hZ.alike Ar4.2.1) Ar4.2.2 hin4 hat4 (g := (mkF m 48 #[rv u0, iv (7 : Int32)] [(.int (7 : Int32)), (.ref u0), (.int ((d6 &&& (255 : Int32)) <<< ((0 : Int32) &&& 31)))])) rfl rfl (hb hby d11_48) _ ?_
    refine XS.sipush X3.here hx rfl (hb hby d11_49) ?_
    refine XS.iand X3.here hx rfl (hb hby d11_52) rfl ?_
    refine st5 _ ?_
    refine XS.ishl X5.here hx rfl (hb hby d11_56) rfl ?_
    refine XS.ior X5.here hx rfl (hb hby d11_57) rfl ?_
    refine XS.i2c X5.here hx rfl (hb hby d11_58) rfl ?_
    show Steps _ _ _ (T5.setTop (mkF m 59 #[rv u0, iv (7 : Int32)] [(.int ((((d6 &&& (255 : Int32)) <<< ((0 : Int32) &&& 31)) ||| ((d7 &&& (255 : Int32)) <<< ((8 : Int32) &&& 31))).toUInt32.toUInt16.toUInt32.toInt32))])) _
    exact retN X5 hx (t := .char) Bd.returns (by simp) (hb hby d11_59) hr
  · show own_QP (some (.int (own_gc d6 d7))) h0 n0 _ T5.heap _
    rw [e5]
    exact ⟨(by first | rfl | simp []), N0, rfl⟩

theorem ef_rmTB4 (m : MethodId) (x0 : Addr) (x1 : Int32) (x2 : Int32) : entryFrame m #[(.ref x0), (.int x1), (.int x2)] 5 = mkF m 0 #[rv x0, iv x1, iv x2, .unset, .unset] [] := by first | (simp [entryFrame, mkF, argsToLocals, Value.category]; done) | rfl
def Q_rmTB4 (Z : State) (u0 : Addr) (kA : ClassId) (c0 : Int32) (c1 : Int32) (c2 : Int32) (c3 : Int32) (h0 : Heap) (n0 : Nat) (v : Option Value) (h : Heap) (L : List Loc) : Prop := ∃ (t : Addr), ∃ (kt : ClassId), (v = (some (.ref t)) ∧ Fr n0 L ∧ Keep h0 h [] ∧ h0.size ≤ t ∧ Arv Z h t kt .byte (8 : Int32) [(.int (((c0 >>> ((0 : Int32) &&& 31)).toInt8.toInt32).toInt8.toInt32)), (.int (((c0 >>> ((8 : Int32) &&& 31)).toInt8.toInt32).toInt8.toInt32)), (.int (((c1 >>> ((0 : Int32) &&& 31)).toInt8.toInt32).toInt8.toInt32)), (.int (((c1 >>> ((8 : Int32) &&& 31)).toInt8.toInt32).toInt8.toInt32)), (.int (((c2 >>> ((0 : Int32) &&& 31)).toInt8.toInt32).toInt8.toInt32)), (.int (((c2 >>> ((8 : Int32) &&& 31)).toInt8.toInt32).toInt8.toInt32)), (.int (((c3 >>> ((0 : Int32) &&& 31)).toInt8.toInt32).toInt8.toInt32)), (.int (((c3 >>> ((8 : Int32) &&& 31)).toInt8.toInt32).toInt8.toInt32))] (.int (0 : Int32)))
set_option maxRecDepth 65536 in
set_option maxHeartbeats 40000000 in
theorem rmTB4 (l : Launch) (Z : State) (a0 : Array Value) (hw : ∀ d ∈ tables_1, d.before a0 Z = true) (ws : List Jvm.Cond) (u0 : Addr) (kA : ClassId) (c0 : Int32) (c1 : Int32) (c2 : Int32) (c3 : Int32) (h0 : Heap) (n0 : Nat) (Z0 : n0 ≤ h0.size) (P_S_StringUTF16__assertionsDisabled : Sta Z h0 "java/lang/StringUTF16" "$assertionsDisabled" "Z" (.int (1 : Int32))) (P_S_StringUTF16_HI_BYTE_SHIFT : Sta Z h0 "java/lang/StringUTF16" "HI_BYTE_SHIFT" "I" (.int (0 : Int32))) (P_S_StringUTF16_LO_BYTE_SHIFT : Sta Z h0 "java/lang/StringUTF16" "LO_BYTE_SHIFT" "I" (.int (8 : Int32))) (P_V_u0 : Arv Z h0 u0 kA .char (4 : Int32) [(.int c0), (.int c1), (.int c2), (.int c3)] (.int (0 : Int32))) :
    MetFree l own_y4 (head1 (Jvm.Cond.code own_y4 jdk_52_method_14_code 5 (some (.array .byte)) :: ws) ({ frames := 2, cells := 1, slots := 8, locals := 24 } : Room)) (fun a U => a = #[(.ref u0), (.int (0 : Int32)), (.int (4 : Int32))] ∧ Z.Warmed39 U.vm ∧ U.heap = h0) (fun _ _ _ _ _ => True) (fun _ U o U' => ∃ v L, o = .returned v ∧ Q_rmTB4 Z u0 kA c0 c1 c2 c3 h0 n0 v U'.heap L ∧ FrameEnd U o U' L ({ frames := 2, cells := 1, slots := 8, locals := 24 } : Room).cells ({ frames := 2, cells := 1, slots := 8, locals := 24 } : Room).slots) := by
  refine MetFree.of_bodySF (plainFor_of_name pn_7) hisR ?_
  intro p e s m args below meth c s₁ Bd hml0 hP hK
  obtain ⟨rfl, hZ, hh⟩ := hP
  have hx := Bd.exec
  have hby := Bd.bytes
  have hml : c.maxLocals = 5 := hml0
  have hown : s.vm.findClass "java/lang/StringUTF16" = some m.cls := findClass_of_methodNamed Bd.named
  have hnm := (name_of_methodNamed Bd.named Bd.method).1
  have X0 : Stand p l e ({ frames := 2, cells := 1, slots := 8, locals := 24 } : Room) s m #[(.ref u0), (.int (0 : Int32)), (.int (4 : Int32))] below meth c s₁ [] 0 0 := Stand.of_body Bd
  have e0 : s₁.heap = h0 := by rw [← hh, Bd.state]; rfl
  have N0 := Fr.nil n0
  have pre0 : ∀ t, Steps p.tables e below (s₁.setTop (mkF m 0 #[rv u0, iv (0 : Int32), iv (4 : Int32), .unset, .unset] [])) t → Steps p.tables e below (s₁.setTop (entryFrame m #[(.ref u0), (.int (0 : Int32)), (.int (4 : Int32))] 5)) t := fun t k => castTop (ef_rmTB4 m u0 (0 : Int32) (4 : Int32)) k
  obtain ⟨_, _, ⟨T1, L1, k1, n1⟩, -, X1, ⟨Lc1, hQ1, l1, y1, z1⟩, st1⟩ := Jvm.LawKit.callS X0 hx (y := own_y1) hown (mvT hZ (own_g hw 32 rfl)) (mvT hZ (own_g hw 33 rfl)) (mvT hZ (own_g hw 23 rfl)) (mvT hZ (own_g hw 34 rfl)) (by decide) (backOf (W := 0) (rmNF4 l Z a0 hw []  h0 n0 Z0 ) hZ (own_g hw 34 rfl) (own_g hw 23 rfl) (by decide) (by decide)) (g := (mkF m 1 #[rv u0, iv (0 : Int32), iv (4 : Int32), .unset, .unset] [(.int (4 : Int32))])) rfl (by rw [hml]; rfl) (argsL := [(.int (4 : Int32))]) (rest := []) (lenOf pd__I__B rfl) rfl (by show 2 * 0 + _ ≤ _; exact Nat.le_of_eq rfl) (hb hby d7_1) (fun _ _ => ⟨rfl, e0, (by decide : 0 + 1 ≤ _), (by decide : 0 + 8 ≤ _)⟩)
  dsimp only [Pt.U, Pt.locs, Pt.cells, Pt.slots] at X1 l1 y1 z1 st1 hQ1
  subst l1 y1 z1
  obtain ⟨t_1, kt_1, rfl, N1q, K1, sx1_0, f2⟩ := hQ1
  have ot_1 : n0 ≤ t_1 := Nat.le_trans Z0 sx1_0
  have zt_1 : h0.size ≤ t_1 := Nat.le_trans (Keep.refl h0 []).1 sx1_0
  have ne3 : u0 ≠ t_1 := Nat.ne_of_lt (Nat.lt_of_lt_of_le P_V_u0.lt sx1_0)
  have KK1 : Keep h0 T1.heap [] := Keep.trans (Keep.refl h0 []) K1 all0
  have N1 := Fr.app N0 N1q
  have f4 : Arv Z T1.heap u0 kA .char (4 : Int32) [(.int c0), (.int c1), (.int c2), (.int c3)] (.int (0 : Int32)) := (P_V_u0.keep K1 nin0)
  obtain ⟨cl5, Ar5, qq5, S5, N5_, H5, G5⟩ := id f4
  have hin5 : ¬ ((0 : Int32) < 0 ∨ cl5.slots.size ≤ ((0 : Int32)).toNatClampNeg) := inb_of S5 ⟨by decide, by decide⟩
  have hat5 : cl5.slots[((0 : Int32)).toNatClampNeg]? = some (.int c0) := H5.at hin5 rfl
  have f6 : Sta Z T1.heap "java/lang/StringUTF16" "$assertionsDisabled" "Z" (.int (1 : Int32)) := (own_staKeep P_S_StringUTF16__assertionsDisabled K1 ns0)
  have f7 : Sta Z T1.heap "java/lang/StringUTF16" "HI_BYTE_SHIFT" "I" (.int (0 : Int32)) := (own_staKeep P_S_StringUTF16_HI_BYTE_SHIFT K1 ns0)
  have f8 : Sta Z T1.heap "java/lang/StringUTF16" "LO_BYTE_SHIFT" "I" (.int (8 : Int32)) := (own_staKeep P_S_StringUTF16_LO_BYTE_SHIFT K1 ns0)
  have f9 : n0 ≤ T1.heap.size := (Nat.le_trans Z0 K1.1)
  obtain ⟨_, _, ⟨T10, L10, k10, n10⟩, -, X10, ⟨Lc10, hQ10, l10, y10, z10⟩, st10⟩ := Jvm.LawKit.callS X1 hx (y := own_y2) hown (mvT hZ (own_g hw 39 rfl)) (mvT hZ (own_g hw 40 rfl)) (mvT hZ (own_g hw 23 rfl)) (mvT hZ (own_g hw 41 rfl)) (by decide) (backOf (W := 0) (rmPC4_0 l Z a0 hw [] t_1 c0 kt_1 (0 : Int32) (0 : Int32) (0 : Int32) (0 : Int32) (0 : Int32) (0 : Int32) (0 : Int32) (0 : Int32) T1.heap n0 f9 f6 f7 f8 f2 ot_1) hZ (own_g hw 41 rfl) (own_g hw 23 rfl) (by decide) (by decide)) (g := (mkF m 20 #[rv u0, iv (0 : Int32), iv (4 : Int32), rv t_1, iv (0 : Int32)] [(.int c0), (.int (0 : Int32)), (.ref t_1)])) rfl (by rw [hml]; rfl) (argsL := [(.ref t_1), (.int (0 : Int32)), (.int c0)]) (rest := []) (lenOf pd___BII_V rfl) rfl (by show 2 * 0 + _ ≤ _; exact Nat.le_of_eq rfl) (hb hby d7_20) (fun _ _ => ⟨rfl, rfl, (by decide : 1 + 0 ≤ _), (by decide : 8 + 0 ≤ _)⟩)
  dsimp only [Pt.U, Pt.locs, Pt.cells, Pt.slots] at X10 l10 y10 z10 st10 hQ10
  subst l10 y10 z10
  obtain ⟨rfl, N10q, K10, f11⟩ := hQ10
  have KK10 : Keep h0 T10.heap [] := Keep.trans KK1 K10 (allS (Or.inr zt_1) all0)
  have N10 := Fr.app N1 N10q
  have f12 : Arv Z T10.heap u0 kA .char (4 : Int32) [(.int c0), (.int c1), (.int c2), (.int c3)] (.int (0 : Int32)) := (f4.keep K10 (ninS ne3 nin0))
  obtain ⟨cl13, Ar13, qq13, S13, N13_, H13, G13⟩ := id f12
  have hin13 : ¬ ((1 : Int32) < 0 ∨ cl13.slots.size ≤ ((1 : Int32)).toNatClampNeg) := inb_of S13 ⟨by decide, by decide⟩
  have hat13 : cl13.slots[((1 : Int32)).toNatClampNeg]? = some (.int c1) := H13.at hin13 rfl
  have f14 : Sta Z T10.heap "java/lang/StringUTF16" "$assertionsDisabled" "Z" (.int (1 : Int32)) := (own_staKeep f6 K10 (nsS f2.nostat ns0))
  have f15 : Sta Z T10.heap "java/lang/StringUTF16" "HI_BYTE_SHIFT" "I" (.int (0 : Int32)) := (own_staKeep f7 K10 (nsS f2.nostat ns0))
  have f16 : Sta Z T10.heap "java/lang/StringUTF16" "LO_BYTE_SHIFT" "I" (.int (8 : Int32)) := (own_staKeep f8 K10 (nsS f2.nostat ns0))
  have f17 : n0 ≤ T10.heap.size := (Nat.le_trans f9 K10.1)
  obtain ⟨_, _, ⟨T18, L18, k18, n18⟩, -, X18, ⟨Lc18, hQ18, l18, y18, z18⟩, st18⟩ := Jvm.LawKit.callS X10 hx (y := own_y2) hown (mvT hZ (own_g hw 39 rfl)) (mvT hZ (own_g hw 40 rfl)) (mvT hZ (own_g hw 23 rfl)) (mvT hZ (own_g hw 41 rfl)) (by decide) (backOf (W := 0) (rmPC4_1 l Z a0 hw [] t_1 c1 kt_1 (((c0 >>> ((0 : Int32) &&& 31)).toInt8.toInt32).toInt8.toInt32) (((c0 >>> ((8 : Int32) &&& 31)).toInt8.toInt32).toInt8.toInt32) (0 : Int32) (0 : Int32) (0 : Int32) (0 : Int32) (0 : Int32) (0 : Int32) T10.heap n0 f17 f14 f15 f16 f11 ot_1) hZ (own_g hw 41 rfl) (own_g hw 23 rfl) (by decide) (by decide)) (g := (mkF m 20 #[rv u0, iv (1 : Int32), iv (4 : Int32), rv t_1, iv (1 : Int32)] [(.int c1), (.int (1 : Int32)), (.ref t_1)])) rfl (by rw [hml]; rfl) (argsL := [(.ref t_1), (.int (1 : Int32)), (.int c1)]) (rest := []) (lenOf pd___BII_V rfl) rfl (by show 2 * 0 + _ ≤ _; exact Nat.le_of_eq rfl) (hb hby d7_20) (fun _ _ => ⟨rfl, rfl, (by decide : 1 + 0 ≤ _), (by decide : 8 + 0 ≤ _)⟩)
  dsimp only [Pt.U, Pt.locs, Pt.cells, Pt.slots] at X18 l18 y18 z18 st18 hQ18
  subst l18 y18 z18
  obtain ⟨rfl, N18q, K18, f19⟩ := hQ18
  have KK18 : Keep h0 T18.heap [] := Keep.trans KK10 K18 (allS (Or.inr zt_1) all0)
  have N18 := Fr.app N10 N18q
  have f20 : Arv Z T18.heap u0 kA .char (4 : Int32) [(.int c0), (.int c1), (.int c2), (.int c3)] (.int (0 : Int32)) := (f12.keep K18 (ninS ne3 nin0))
  obtain ⟨cl21, Ar21, qq21, S21, N21_, H21, G21⟩ := id f20
  have hin21 : ¬ ((2 : Int32) < 0 ∨ cl21.slots.size ≤ ((2 : Int32)).toNatClampNeg) := inb_of S21 ⟨by decide, by decide⟩
  have hat21 : cl21.slots[((2 : Int32)).toNatClampNeg]? = some (.int c2) := H21.at hin21 rfl
  have f22 : Sta Z T18.heap "java/lang/StringUTF16" "$assertionsDisabled" "Z" (.int (1 : Int32)) := (own_staKeep f14 K18 (nsS f11.nostat ns0))
  have f23 : Sta Z T18.heap "java/lang/StringUTF16" "HI_BYTE_SHIFT" "I" (.int (0 : Int32)) := (own_staKeep f15 K18 (nsS f11.nostat ns0))
  have f24 : Sta Z T18.heap "java/lang/StringUTF16" "LO_BYTE_SHIFT" "I" (.int (8 : Int32)) := (own_staKeep f16 K18 (nsS f11.nostat ns0))
  have f25 : n0 ≤ T18.heap.size := (Nat.le_trans f17 K18.1)
  obtain ⟨_, _, ⟨T26, L26, k26, n26⟩, -, X26, ⟨Lc26, hQ26, l26, y26, z26⟩, st26⟩ := Jvm.LawKit.callS X18 hx (y := own_y2) hown (mvT hZ (own_g hw 39 rfl)) (mvT hZ (own_g hw 40 rfl)) (mvT hZ (own_g hw 23 rfl)) (mvT hZ (own_g hw 41 rfl)) (by decide) (backOf (W := 0) (rmPC4_2 l Z a0 hw [] t_1 c2 kt_1 (((c0 >>> ((0 : Int32) &&& 31)).toInt8.toInt32).toInt8.toInt32) (((c0 >>> ((8 : Int32) &&& 31)).toInt8.toInt32).toInt8.toInt32) (((c1 >>> ((0 : Int32) &&& 31)).toInt8.toInt32).toInt8.toInt32) (((c1 >>> ((8 : Int32) &&& 31)).toInt8.toInt32).toInt8.toInt32) (0 : Int32) (0 : Int32) (0 : Int32) (0 : Int32) T18.heap n0 f25 f22 f23 f24 f19 ot_1) hZ (own_g hw 41 rfl) (own_g hw 23 rfl) (by decide) (by decide)) (g := (mkF m 20 #[rv u0, iv (2 : Int32), iv (4 : Int32), rv t_1, iv (2 : Int32)] [(.int c2), (.int (2 : Int32)), (.ref t_1)])) rfl (by rw [hml]; rfl) (argsL := [(.ref t_1), (.int (2 : Int32)), (.int c2)]) (rest := []) (lenOf pd___BII_V rfl) rfl (by show 2 * 0 + _ ≤ _; exact Nat.le_of_eq rfl) (hb hby d7_20) (fun _ _ => ⟨rfl, rfl, (by decide : 1 + 0 ≤ _), (by decide : 8 + 0 ≤ _)⟩)
  dsimp only [Pt.U, Pt.locs, Pt.cells, Pt.slots] at X26 l26 y26 z26 st26 hQ26
  subst l26 y26 z26
  obtain ⟨rfl, N26q, K26, f27⟩ := hQ26
  have KK26 : Keep h0 T26.heap [] := Keep.trans KK18 K26 (allS (Or.inr zt_1) all0)
  have N26 := Fr.app N18 N26q
  have f28 : Arv Z T26.heap u0 kA .char (4 : Int32) [(.int c0), (.int c1), (.int c2), (.int c3)] (.int (0 : Int32)) := (f20.keep K26 (ninS ne3 nin0))
  obtain ⟨cl29, Ar29, qq29, S29, N29_, H29, G29⟩ := id f28
  have hin29 : ¬ ((3 : Int32) < 0 ∨ cl29.slots.size ≤ ((3 : Int32)).toNatClampNeg) := inb_of S29 ⟨by decide, by decide⟩
  have hat29 : cl29.slots[((3 : Int32)).toNatClampNeg]? = some (.int c3) := H29.at hin29 rfl
  have f30 : Sta Z T26.heap "java/lang/StringUTF16" "$assertionsDisabled" "Z" (.int (1 : Int32)) := (own_staKeep f22 K26 (nsS f19.nostat ns0))
  have f31 : Sta Z T26.heap "java/lang/StringUTF16" "HI_BYTE_SHIFT" "I" (.int (0 : Int32)) := (own_staKeep f23 K26 (nsS f19.nostat ns0))
  have f32 : Sta Z T26.heap "java/lang/StringUTF16" "LO_BYTE_SHIFT" "I" (.int (8 : Int32)) := (own_staKeep f24 K26 (nsS f19.nostat ns0))
  have f33 : n0 ≤ T26.heap.size := (Nat.le_trans f25 K26.1)
  obtain ⟨_, _, ⟨T34, L34, k34, n34⟩, -, X34, ⟨Lc34, hQ34, l34, y34, z34⟩, st34⟩ := Jvm.LawKit.callS X26 hx (y := own_y2) hown (mvT hZ (own_g hw 39 rfl)) (mvT hZ (own_g hw 40 rfl)) (mvT hZ (own_g hw 23 rfl)) (mvT hZ (own_g hw 41 rfl)) (by decide) (backOf (W := 0) (rmPC4_3 l Z a0 hw [] t_1 c3 kt_1 (((c0 >>> ((0 : Int32) &&& 31)).toInt8.toInt32).toInt8.toInt32) (((c0 >>> ((8 : Int32) &&& 31)).toInt8.toInt32).toInt8.toInt32) (((c1 >>> ((0 : Int32) &&& 31)).toInt8.toInt32).toInt8.toInt32) (((c1 >>> ((8 : Int32) &&& 31)).toInt8.toInt32).toInt8.toInt32) (((c2 >>> ((0 : Int32) &&& 31)).toInt8.toInt32).toInt8.toInt32) (((c2 >>> ((8 : Int32) &&& 31)).toInt8.toInt32).toInt8.toInt32) (0 : Int32) (0 : Int32) T26.heap n0 f33 f30 f31 f32 f27 ot_1) hZ (own_g hw 41 rfl) (own_g hw 23 rfl) (by decide) (by decide)) (g := (mkF m 20 #[rv u0, iv (3 : Int32), iv (4 : Int32), rv t_1, iv (3 : Int32)] [(.int c3), (.int (3 : Int32)), (.ref t_1)])) rfl (by rw [hml]; rfl) (argsL := [(.ref t_1), (.int (3 : Int32)), (.int c3)]) (rest := []) (lenOf pd___BII_V rfl) rfl (by show 2 * 0 + _ ≤ _; exact Nat.le_of_eq rfl) (hb hby d7_20) (fun _ _ => ⟨rfl, rfl, (by decide : 1 + 0 ≤ _), (by decide : 8 + 0 ≤ _)⟩)
  dsimp only [Pt.U, Pt.locs, Pt.cells, Pt.slots] at X34 l34 y34 z34 st34 hQ34
  subst l34 y34 z34
  obtain ⟨rfl, N34q, K34, f35⟩ := hQ34
  have KK34 : Keep h0 T34.heap [] := Keep.trans KK26 K34 (allS (Or.inr zt_1) all0)
  have N34 := Fr.app N26 N34q
  obtain ⟨fs, hr, hrun, hended, hW, hsame⟩ := X34.leave (v := some (.ref t_1)) (fun h => by rw [Bd.returns] at h; cases h)
  refine ⟨_, _, pre0 _ ?_, hrun, hended, _, _, rfl, ?_, ⟨_, rfl⟩, hW, hsame.mono (by decide) (by decide)⟩
  · refine XS.iloadN X0.here hx rfl (hb hby d7_0) rfl ?_
    show Steps _ _ _ (s₁.setTop (mkF m 1 #[rv u0, iv (0 : Int32), iv (4 : Int32), .unset, .unset] [(.int (4 : Int32))])) _
    refine st1 _ ?_
    refine XS.astoreN X1.here hx rfl (hb hby d7_4) rfl rfl (l' := #[rv u0, iv (0 : Int32), iv (4 : Int32), rv t_1, .unset]) rfl ?_
    refine XS.iconst X1.here hx rfl (hb hby d7_5) ?_
    refine XS.istore X1.here hx rfl (hb hby d7_6) rfl (l' := #[rv u0, iv (0 : Int32), iv (4 : Int32), rv t_1, iv (0 : Int32)]) rfl ?_
    refine XS.iload X1.here hx rfl (hb hby d7_8) rfl ?_
    refine XS.iloadN X1.here hx rfl (hb hby d7_10) rfl ?_
    refine XS.icmpNo X1.here hx rfl (hb hby d7_11) rfl (tlt (by decide : (0 : Int32) < (4 : Int32))).2.1 ?_
    refine XS.aloadN X1.here hx rfl (hb hby d7_14) rfl rfl ?_
    refine XS.iload X1.here hx rfl (hb hby d7_15) rfl ?_
    refine XS.aloadN X1.here hx rfl (hb hby d7_17) rfl rfl ?_
    refine XS.iloadN X1.here hx rfl (hb hby d7_18) rfl ?_
    refine X1.caload hx (j := (0 : Int32)) (v := (.int c0)) Ar5.1 (State.isArrayOf_alike hZ.alike Ar5.2.1) Ar5.2.2 hin5 hat5 (g := (mkF m 19 #[rv u0, iv (0 : Int32), iv (4 : Int32), rv t_1, iv (0 : Int32)] [(.int (0 : Int32)), (.ref u0), (.int (0 : Int32)), (.ref t_1)])) rfl rfl (hb hby d7_19) _ ?_
    show Steps _ _ _ (T1.setTop (mkF m 20 #[rv u0, iv (0 : Int32), iv (4 : Int32), rv t_1, iv (0 : Int32)] [(.int c0), (.int (0 : Int32)), (.ref t_1)])) _
    refine st10 _ ?_
    refine XS.iinc X10.here hx rfl (hb hby d7_23) rfl (l' := #[rv u0, iv (1 : Int32), iv (4 : Int32), rv t_1, iv (0 : Int32)]) rfl ?_
    refine XS.iinc X10.here hx rfl (hb hby d7_26) rfl (l' := #[rv u0, iv (1 : Int32), iv (4 : Int32), rv t_1, iv (1 : Int32)]) rfl ?_
    refine XS.goto X10.here hx rfl (pc0 := 29) (pc' := 8) rfl (hb hby d7_29) (by decide) (by decide) ?_
    refine XS.iload X10.here hx rfl (hb hby d7_8) rfl ?_
    refine XS.iloadN X10.here hx rfl (hb hby d7_10) rfl ?_
    refine XS.icmpNo X10.here hx rfl (hb hby d7_11) rfl (tlt (by decide : (1 : Int32) < (4 : Int32))).2.1 ?_
    refine XS.aloadN X10.here hx rfl (hb hby d7_14) rfl rfl ?_
    refine XS.iload X10.here hx rfl (hb hby d7_15) rfl ?_
    refine XS.aloadN X10.here hx rfl (hb hby d7_17) rfl rfl ?_
    refine XS.iloadN X10.here hx rfl (hb hby d7_18) rfl ?_
    refine X10.caload hx (j := (1 : Int32)) (v := (.int c1)) Ar13.1 (State.isArrayOf_alike hZ.alike Ar13.2.1) Ar13.2.2 hin13 hat13 (g := (mkF m 19 #[rv u0, iv (1 : Int32), iv (4 : Int32), rv t_1, iv (1 : Int32)] [(.int (1 : Int32)), (.ref u0), (.int (1 : Int32)), (.ref t_1)])) rfl rfl (hb hby d7_19) _ ?_
    show Steps _ _ _ (T10.setTop (mkF m 20 #[rv u0, iv (1 : Int32), iv (4 : Int32), rv t_1, iv (1 : Int32)] [(.int c1), (.int (1 : Int32)), (.ref t_1)])) _
    refine st18 _ ?_
    show Steps _ _ _ (T18.setTop (mkF m 23 #[rv u0, iv (1 : Int32), iv (4 : Int32), rv t_1, iv (1 : Int32)] [])) _
    refine XS.iinc X18.here hx rfl (hb hby d7_23) rfl (l' := #[rv u0, iv (2 : Int32), iv (4 : Int32), rv t_1, iv (1 : Int32)]) rfl ?_
    refine XS.iinc X18.here hx rfl (hb hby d7_26) rfl (l' := #[rv u0, iv (2 : Int32), iv (4 : Int32), rv t_1, iv (2 : Int32)]) rfl ?_
    refine XS.goto X18.here hx rfl (pc0 := 29) (pc' := 8) rfl (hb hby d7_29) (by decide) (by decide) ?_
    refine XS.iload X18.here hx rfl (hb hby d7_8) rfl ?_
    refine XS.iloadN X18.here hx rfl (hb hby d7_10) rfl ?_
    refine XS.icmpNo X18.here hx rfl (hb hby d7_11) rfl (tlt (by decide : (2 : Int32) < (4 : Int32))).2.1 ?_
    refine XS.aloadN X18.here hx rfl (hb hby d7_14) rfl rfl ?_
    refine XS.iload X18.here hx rfl (hb hby d7_15) rfl ?_
    refine XS.aloadN X18.here hx rfl (hb hby d7_17) rfl rfl ?_
    refine XS.iloadN X18.here hx rfl (hb hby d7_18) rfl ?_
    refine X18.caload hx (j := (2 : Int32)) (v := (.int c2)) Ar21.1 (State.isArrayOf_alike hZ.alike Ar21.2.1) Ar21.2.2 hin21 hat21 (g := (mkF m 19 #[rv u0, iv (2 : Int32), iv (4 : Int32), rv t_1, iv (2 : Int32)] [(.int (2 : Int32)), (.ref u0), (.int (2 : Int32)), (.ref t_1)])) rfl rfl (hb hby d7_19) _ ?_
    show Steps _ _ _ (T18.setTop (mkF m 20 #[rv u0, iv (2 : Int32), iv (4 : Int32), rv t_1, iv (2 : Int32)] [(.int c2), (.int (2 : Int32)), (.ref t_1)])) _
    refine st26 _ ?_
    refine XS.iinc X26.here hx rfl (hb hby d7_23) rfl (l' := #[rv u0, iv (3 : Int32), iv (4 : Int32), rv t_1, iv (2 : Int32)]) rfl ?_
    refine XS.iinc X26.here hx rfl (hb hby d7_26) rfl (l' := #[rv u0, iv (3 : Int32), iv (4 : Int32), rv t_1, iv (3 : Int32)]) rfl ?_
    refine XS.goto X26.here hx rfl (pc0 := 29) (pc' := 8) rfl (hb hby d7_29) (by decide) (by decide) ?_
    refine XS.iload X26.here hx rfl (hb hby d7_8) rfl ?_
    refine XS.iloadN X26.here hx rfl (hb hby d7_10) rfl ?_
    refine XS.icmpNo X26.here hx rfl (hb hby d7_11) rfl (tlt (by decide : (3 : Int32) < (4 : Int32))).2.1 ?_
    refine XS.aloadN X26.here hx rfl (hb hby d7_14) rfl rfl ?_
    refine XS.iload X26.here hx rfl (hb hby d7_15) rfl ?_
    refine XS.aloadN X26.here hx rfl (hb hby d7_17) rfl rfl ?_
    refine XS.iloadN X26.here hx rfl (hb hby d7_18) rfl ?_
    refine X26.caload hx (j := (3 : Int32)) (v := (.int c3)) Ar29.1 (State.isArrayOf_alike hZ.alike Ar29.2.1) Ar29.2.2 hin29 hat29 (g := (mkF m 19 #[rv u0, iv (3 : Int32), iv (4 : Int32), rv t_1, iv (3 : Int32)] [(.int (3 : Int32)), (.ref u0), (.int (3 : Int32)), (.ref t_1)])) rfl rfl (hb hby d7_19) _ ?_
    show Steps _ _ _ (T26.setTop (mkF m 20 #[rv u0, iv (3 : Int32), iv (4 : Int32), rv t_1, iv (3 : Int32)] [(.int c3), (.int (3 : Int32)), (.ref t_1)])) _
    refine st34 _ ?_
    refine XS.iinc X34.here hx rfl (hb hby d7_23) rfl (l' := #[rv u0, iv (4 : Int32), iv (4 : Int32), rv t_1, iv (3 : Int32)]) rfl ?_
    refine XS.iinc X34.here hx rfl (hb hby d7_26) rfl (l' := #[rv u0, iv (4 : Int32), iv (4 : Int32), rv t_1, iv (4 : Int32)]) rfl ?_
    show Steps _ _ _ (T34.setTop (mkF m 29 #[rv u0, iv (4 : Int32), iv (4 : Int32), rv t_1, iv (4 : Int32)] [])) _
    refine XS.goto X34.here hx rfl (pc0 := 29) (pc' := 8) rfl (hb hby d7_29) (by decide) (by decide) ?_
    refine XS.iload X34.here hx rfl (hb hby d7_8) rfl ?_
    refine XS.iloadN X34.here hx rfl (hb hby d7_10) rfl ?_
    refine XS.icmpYes X34.here hx rfl (pc0 := 11) (pc' := 32) rfl (hb hby d7_11) rfl (flt (by decide : ¬ ((4 : Int32) < (4 : Int32)))).2.1 (by decide) (by decide) ?_
    refine XS.aloadN X34.here hx rfl (hb hby d7_32) rfl rfl ?_
    show Steps _ _ _ (T34.setTop (mkF m 33 #[rv u0, iv (4 : Int32), iv (4 : Int32), rv t_1, iv (4 : Int32)] [(.ref t_1)])) _
    exact retOut X34 hx Bd.returns rfl (Or.inr (Or.inr (Or.inr (Or.inr ⟨rfl, rfl, rfl⟩)))) (hb hby d7_33) hr
  · show Q_rmTB4 Z u0 kA c0 c1 c2 c3 h0 n0 _ T34.heap _
    exact ⟨t_1, kt_1, rfl, N34, KK34, zt_1, f35⟩

theorem ef_rmC5_4_0 (m : MethodId) (x0 : Addr) (x1 : Int32) (x2 : Addr) (x3 : Int32) (x4 : Int32) : entryFrame m #[(.ref x0), (.int x1), (.ref x2), (.int x3), (.int x4)] 7 = mkF m 0 #[rv x0, iv x1, rv x2, iv x3, iv x4, .unset, .unset] [] := by first | (simp [entryFrame, mkF, argsToLocals, Value.category]; done) | rfl
def Q_rmC5_4_0 (Z : State) (u0 : Addr) (u2 : Addr) (kA : ClassId) (c0 : Int32) (c1 : Int32) (c2 : Int32) (c3 : Int32) (kB : ClassId) (d0 : Int32) (d1 : Int32) (d2 : Int32) (d3 : Int32) (h0 : Heap) (n0 : Nat) (v : Option Value) (h : Heap) (L : List Loc) : Prop := (v = (some (.int (0 : Int32))) ∧ Fr n0 L ∧ Keep h0 h [u2] ∧ Arv Z h u2 kB .byte (4 : Int32) [(.int d0), (.int d1), (.int d2), (.int d3)] (.int (0 : Int32)))
set_option maxRecDepth 65536 in
set_option maxHeartbeats 40000000 in
theorem rmC5_4_0 (l : Launch) (Z : State) (a0 : Array Value) (hw : ∀ d ∈ tables_1, d.before a0 Z = true) (ws : List Jvm.Cond) (u0 : Addr) (u2 : Addr) (kA : ClassId) (c0 : Int32) (c1 : Int32) (c2 : Int32) (c3 : Int32) (kB : ClassId) (d0 : Int32) (d1 : Int32) (d2 : Int32) (d3 : Int32) (h0 : Heap) (n0 : Nat) (Z0 : n0 ≤ h0.size) (P_V_u0 : Arv Z h0 u0 kA .char (4 : Int32) [(.int c0), (.int c1), (.int c2), (.int c3)] (.int (0 : Int32))) (P_V_u2 : Arv Z h0 u2 kB .byte (4 : Int32) [(.int d0), (.int d1), (.int d2), (.int d3)] (.int (0 : Int32))) (neA : u0 ≠ u2) (hp0 : (255 : Int32) < c0) (g_u2 : n0 ≤ u2) :
    MetFree l own_y5 (head1 (Jvm.Cond.code own_y5 jdk_52_method_21_code 7 (some .int) :: ws) ({ frames := 0, cells := 0, slots := 0, locals := 0 } : Room)) (fun a U => a = #[(.ref u0), (.int (0 : Int32)), (.ref u2), (.int (0 : Int32)), (.int (4 : Int32))] ∧ Z.Warmed39 U.vm ∧ U.heap = h0) (fun _ _ _ _ _ => True) (fun _ U o U' => ∃ v L, o = .returned v ∧ Q_rmC5_4_0 Z u0 u2 kA c0 c1 c2 c3 kB d0 d1 d2 d3 h0 n0 v U'.heap L ∧ FrameEnd U o U' L ({ frames := 0, cells := 0, slots := 0, locals := 0 } : Room).cells ({ frames := 0, cells := 0, slots := 0, locals := 0 } : Room).slots) := by
  refine MetFree.of_bodySF (plainFor_of_name pn_6) hisR ?_
  intro p e s m args below meth c s₁ Bd hml0 hP hK
  obtain ⟨rfl, hZ, hh⟩ := hP
  have hx := Bd.exec
  have hby := Bd.bytes
  have hml : c.maxLocals = 7 := hml0
  have hown : s.vm.findClass "java/lang/StringUTF16" = some m.cls := findClass_of_methodNamed Bd.named
  have hnm := (name_of_methodNamed Bd.named Bd.method).1
  have X0 : Stand p l e ({ frames := 0, cells := 0, slots := 0, locals := 0 } : Room) s m #[(.ref u0), (.int (0 : Int32)), (.ref u2), (.int (0 : Int32)), (.int (4 : Int32))] below meth c s₁ [] 0 0 := Stand.of_body Bd
  have e0 : s₁.heap = h0 := by rw [← hh, Bd.state]; rfl
  have N0 := Fr.nil n0
  have pre0 : ∀ t, Steps p.tables e below (s₁.setTop (mkF m 0 #[rv u0, iv (0 : Int32), rv u2, iv (0 : Int32), iv (4 : Int32), .unset, .unset] [])) t → Steps p.tables e below (s₁.setTop (entryFrame m #[(.ref u0), (.int (0 : Int32)), (.ref u2), (.int (0 : Int32)), (.int (4 : Int32))] 7)) t := fun t k => castTop (ef_rmC5_4_0 m u0 (0 : Int32) u2 (0 : Int32) (4 : Int32)) k
  obtain ⟨cl1, Ar1, qq1, S1, N1_, H1, G1⟩ := id P_V_u0
  have hin1 : ¬ ((0 : Int32) < 0 ∨ cl1.slots.size ≤ ((0 : Int32)).toNatClampNeg) := inb_of S1 ⟨by decide, by decide⟩
  have hat1 : cl1.slots[((0 : Int32)).toNatClampNeg]? = some (.int c0) := H1.at hin1 rfl
  obtain ⟨fs, hr, hrun, hended, hW, hsame⟩ := X0.leave (v := some (.int (0 : Int32))) (fun h => by rw [Bd.returns] at h; cases h)
  refine ⟨_, _, pre0 _ ?_, hrun, hended, _, _, rfl, ?_, ⟨_, rfl⟩, hW, hsame.mono (by decide) (by decide)⟩
  · refine XS.iconst X0.here hx rfl (hb hby d6_0) ?_
    refine XS.istore X0.here hx rfl (hb hby d6_1) rfl (l' := #[rv u0, iv (0 : Int32), rv u2, iv (0 : Int32), iv (4 : Int32), iv (0 : Int32), .unset]) rfl ?_
    refine XS.iload X0.here hx rfl (hb hby d6_3) rfl ?_
    refine XS.iload X0.here hx rfl (hb hby d6_5) rfl ?_
    refine XS.icmpNo X0.here hx rfl (hb hby d6_7) rfl (tlt (by decide : (0 : Int32) < (4 : Int32))).2.1 ?_
    refine XS.aloadN X0.here hx rfl (hb hby d6_10) rfl rfl ?_
    refine XS.iloadN X0.here hx rfl (hb hby d6_11) rfl ?_
    refine X0.caload hx (j := (0 : Int32)) (v := (.int c0)) (by rw [e0]; exact Ar1.1) (State.isArrayOf_alike hZ.alike Ar1.2.1) Ar1.2.2 hin1 hat1 (g := (mkF m 12 #[rv u0, iv (0 : Int32), rv u2, iv (0 : Int32), iv (4 : Int32), iv (0 : Int32), .unset] [(.int (0 : Int32)), (.ref u0)])) rfl rfl (hb hby d6_12) _ ?_
    refine XS.istore X0.here hx rfl (hb hby d6_13) rfl (l' := #[rv u0, iv (0 : Int32), rv u2, iv (0 : Int32), iv (4 : Int32), iv (0 : Int32), iv c0]) rfl ?_
    refine XS.iload X0.here hx rfl (hb hby d6_15) rfl ?_
    refine XS.sipush X0.here hx rfl (hb hby d6_17) ?_
    refine XS.icmpNo X0.here hx rfl (hb hby d6_20) rfl (tlt hp0).2.2.2 ?_
    refine XS.iload X0.here hx rfl (hb hby d6_23) rfl ?_
    show Steps _ _ _ (s₁.setTop (mkF m 25 #[rv u0, iv (0 : Int32), rv u2, iv (0 : Int32), iv (4 : Int32), iv (0 : Int32), iv c0] [(.int (0 : Int32))])) _
    exact retI X0 hx Bd.returns (hb hby d6_25) hr
  · show Q_rmC5_4_0 Z u0 u2 kA c0 c1 c2 c3 kB d0 d1 d2 d3 h0 n0 _ s₁.heap _
    rw [e0]
    exact ⟨rfl, N0, (Keep.refl h0 [u2]), P_V_u2⟩

theorem ef_rmC5_4_1 (m : MethodId) (x0 : Addr) (x1 : Int32) (x2 : Addr) (x3 : Int32) (x4 : Int32) : entryFrame m #[(.ref x0), (.int x1), (.ref x2), (.int x3), (.int x4)] 7 = mkF m 0 #[rv x0, iv x1, rv x2, iv x3, iv x4, .unset, .unset] [] := by first | (simp [entryFrame, mkF, argsToLocals, Value.category]; done) | rfl
def Q_rmC5_4_1 (Z : State) (u0 : Addr) (u2 : Addr) (kA : ClassId) (c0 : Int32) (c1 : Int32) (c2 : Int32) (c3 : Int32) (kB : ClassId) (d0 : Int32) (d1 : Int32) (d2 : Int32) (d3 : Int32) (h0 : Heap) (n0 : Nat) (v : Option Value) (h : Heap) (L : List Loc) : Prop := (v = (some (.int (1 : Int32))) ∧ Fr n0 L ∧ Keep h0 h [u2] ∧ Arv Z h u2 kB .byte (4 : Int32) [(.int ((c0.toInt8.toInt32).toInt8.toInt32)), (.int d1), (.int d2), (.int d3)] (.int (0 : Int32)))
set_option maxRecDepth 65536 in
set_option maxHeartbeats 40000000 in
theorem rmC5_4_1 (l : Launch) (Z : State) (a0 : Array Value) (hw : ∀ d ∈ tables_1, d.before a0 Z = true) (ws : List Jvm.Cond) (u0 : Addr) (u2 : Addr) (kA : ClassId) (c0 : Int32) (c1 : Int32) (c2 : Int32) (c3 : Int32) (kB : ClassId) (d0 : Int32) (d1 : Int32) (d2 : Int32) (d3 : Int32) (h0 : Heap) (n0 : Nat) (Z0 : n0 ≤ h0.size) (P_V_u0 : Arv Z h0 u0 kA .char (4 : Int32) [(.int c0), (.int c1), (.int c2), (.int c3)] (.int (0 : Int32))) (P_V_u2 : Arv Z h0 u2 kB .byte (4 : Int32) [(.int d0), (.int d1), (.int d2), (.int d3)] (.int (0 : Int32))) (neA : u0 ≠ u2) (hp0 : ¬ ((255 : Int32) < c0)) (hp1 : (255 : Int32) < c1) (g_u2 : n0 ≤ u2) :
    MetFree l own_y5 (head1 (Jvm.Cond.code own_y5 jdk_52_method_21_code 7 (some .int) :: ws) ({ frames := 0, cells := 0, slots := 0, locals := 0 } : Room)) (fun a U => a = #[(.ref u0), (.int (0 : Int32)), (.ref u2), (.int (0 : Int32)), (.int (4 : Int32))] ∧ Z.Warmed39 U.vm ∧ U.heap = h0) (fun _ _ _ _ _ => True) (fun _ U o U' => ∃ v L, o = .returned v ∧ Q_rmC5_4_1 Z u0 u2 kA c0 c1 c2 c3 kB d0 d1 d2 d3 h0 n0 v U'.heap L ∧ FrameEnd U o U' L ({ frames := 0, cells := 0, slots := 0, locals := 0 } : Room).cells ({ frames := 0, cells := 0, slots := 0, locals := 0 } : Room).slots) := by
  refine MetFree.of_bodySF (plainFor_of_name pn_6) hisR ?_
  intro p e s m args below meth c s₁ Bd hml0 hP hK
  obtain ⟨rfl, hZ, hh⟩ := hP
  have hx := Bd.exec
  have hby := Bd.bytes
  have hml : c.maxLocals = 7 := hml0
  have hown : s.vm.findClass "java/lang/StringUTF16" = some m.cls := findClass_of_methodNamed Bd.named
  have hnm := (name_of_methodNamed Bd.named Bd.method).1
  have X0 : Stand p l e ({ frames := 0, cells := 0, slots := 0, locals := 0 } : Room) s m #[(.ref u0), (.int (0 : Int32)), (.ref u2), (.int (0 : Int32)), (.int (4 : Int32))] below meth c s₁ [] 0 0 := Stand.of_body Bd
  have e0 : s₁.heap = h0 := by rw [← hh, Bd.state]; rfl
  have N0 := Fr.nil n0
  have pre0 : ∀ t, Steps p.tables e below (s₁.setTop (mkF m 0 #[rv u0, iv (0 : Int32), rv u2, iv (0 : Int32), iv (4 : Int32), .unset, .unset] [])) t → Steps p.tables e below (s₁.setTop (entryFrame m #[(.ref u0), (.int (0 : Int32)), (.ref u2), (.int (0 : Int32)), (.int (4 : Int32))] 7)) t := fun t k => castTop (ef_rmC5_4_1 m u0 (0 : Int32) u2 (0 : Int32) (4 : Int32)) k
  obtain ⟨cl1, Ar1, qq1, S1, N1_, H1, G1⟩ := id P_V_u0
  have hin1 : ¬ ((0 : Int32) < 0 ∨ cl1.slots.size ≤ ((0 : Int32)).toNatClampNeg) := inb_of S1 ⟨by decide, by decide⟩
  have hat1 : cl1.slots[((0 : Int32)).toNatClampNeg]? = some (.int c0) := H1.at hin1 rfl
  obtain ⟨cl2, Ar2, qq2, S2, N2_, H2, G2⟩ := id P_V_u2
  have hin2 : ¬ ((0 : Int32) < 0 ∨ cl2.slots.size ≤ ((0 : Int32)).toNatClampNeg) := inb_of S2 ⟨by decide, by decide⟩
  obtain ⟨T3, h3, X3, e3, W3, st3⟩ := stB X0 hx hZ e0 Ar2 (j := (0 : Int32)) hin2 (g := (mkF m 31 #[rv u0, iv (0 : Int32), rv u2, iv (0 : Int32), iv (4 : Int32), iv (0 : Int32), iv c0] [(.int (c0.toInt8.toInt32)), (.int (0 : Int32)), (.ref u2)])) rfl rfl (hb hby d6_31)
  have V3 : Arv Z h3 u2 kB .byte (4 : Int32) [(.int ((c0.toInt8.toInt32).toInt8.toInt32)), (.int d1), (.int d2), (.int d3)] (.int (0 : Int32)) := Arv.set Ar2 qq2 S2 N2_ H2 G2 (fits_nar_byte _) W3 0 rfl (Nat.le_of_ble_eq_true rfl)
  have N4 := Fr.snoc X3 N0 g_u2
  have K5 : Keep h0 h3 [u2] := (Keep.refl h0 [u2]).wr W3 (Or.inl (List.mem_of_getElem? (i := 0) rfl))
  have f6 : Arv Z h3 u0 kA .char (4 : Int32) [(.int c0), (.int c1), (.int c2), (.int c3)] (.int (0 : Int32)) := (P_V_u0.other W3 neA)
  obtain ⟨cl7, Ar7, qq7, S7, N7_, H7, G7⟩ := id f6
  have hin7 : ¬ ((1 : Int32) < 0 ∨ cl7.slots.size ≤ ((1 : Int32)).toNatClampNeg) := inb_of S7 ⟨by decide, by decide⟩
  have hat7 : cl7.slots[((1 : Int32)).toNatClampNeg]? = some (.int c1) := H7.at hin7 rfl
  obtain ⟨fs, hr, hrun, hended, hW, hsame⟩ := X3.leave (v := some (.int (1 : Int32))) (fun h => by rw [Bd.returns] at h; cases h)
  refine ⟨_, _, pre0 _ ?_, hrun, hended, _, _, rfl, ?_, ⟨_, rfl⟩, hW, hsame.mono (by decide) (by decide)⟩
  · refine XS.iconst X0.here hx rfl (hb hby d6_0) ?_
    refine XS.istore X0.here hx rfl (hb hby d6_1) rfl (l' := #[rv u0, iv (0 : Int32), rv u2, iv (0 : Int32), iv (4 : Int32), iv (0 : Int32), .unset]) rfl ?_
    refine XS.iload X0.here hx rfl (hb hby d6_3) rfl ?_
    refine XS.iload X0.here hx rfl (hb hby d6_5) rfl ?_
    refine XS.icmpNo X0.here hx rfl (hb hby d6_7) rfl (tlt (by decide : (0 : Int32) < (4 : Int32))).2.1 ?_
    refine XS.aloadN X0.here hx rfl (hb hby d6_10) rfl rfl ?_
    refine XS.iloadN X0.here hx rfl (hb hby d6_11) rfl ?_
    refine X0.caload hx (j := (0 : Int32)) (v := (.int c0)) (by rw [e0]; exact Ar1.1) (State.isArrayOf_alike hZ.alike Ar1.2.1) Ar1.2.2 hin1 hat1 (g := (mkF m 12 #[rv u0, iv (0 : Int32), rv u2, iv (0 : Int32), iv (4 : Int32), iv (0 : Int32), .unset] [(.int (0 : Int32)), (.ref u0)])) rfl rfl (hb hby d6_12) _ ?_
    refine XS.istore X0.here hx rfl (hb hby d6_13) rfl (l' := #[rv u0, iv (0 : Int32), rv u2, iv (0 : Int32), iv (4 : Int32), iv (0 : Int32), iv c0]) rfl ?_
    refine XS.iload X0.here hx rfl (hb hby d6_15) rfl ?_
    refine XS.sipush X0.here hx rfl (hb hby d6_17) ?_
    refine XS.icmpYes X0.here hx rfl (pc0 := 20) (pc' := 26) rfl (hb hby d6_20) rfl (flt hp0).2.2.2 (by decide) (by decide) ?_
    refine XS.aloadN X0.here hx rfl (hb hby d6_26) rfl rfl ?_
    refine XS.iloadN X0.here hx rfl (hb hby d6_27) rfl ?_
    refine XS.iload X0.here hx rfl (hb hby d6_28) rfl ?_
    refine XS.i2b X0.here hx rfl (hb hby d6_30) rfl ?_
    refine st3 _ ?_
    refine XS.iinc X3.here hx rfl (hb hby d6_32) rfl (l' := #[rv u0, iv (1 : Int32), rv u2, iv (0 : Int32), iv (4 : Int32), iv (0 : Int32), iv c0]) rfl ?_
    refine XS.iinc X3.here hx rfl (hb hby d6_35) rfl (l' := #[rv u0, iv (1 : Int32), rv u2, iv (1 : Int32), iv (4 : Int32), iv (0 : Int32), iv c0]) rfl ?_
    refine XS.iinc X3.here hx rfl (hb hby d6_38) rfl (l' := #[rv u0, iv (1 : Int32), rv u2, iv (1 : Int32), iv (4 : Int32), iv (1 : Int32), iv c0]) rfl ?_
    refine XS.goto X3.here hx rfl (pc0 := 41) (pc' := 3) rfl (hb hby d6_41) (by decide) (by decide) ?_
    refine XS.iload X3.here hx rfl (hb hby d6_3) rfl ?_
    refine XS.iload X3.here hx rfl (hb hby d6_5) rfl ?_
    show Steps _ _ _ (T3.setTop (mkF m 7 #[rv u0, iv (1 : Int32), rv u2, iv (1 : Int32), iv (4 : Int32), iv (1 : Int32), iv c0] [(.int (4 : Int32)), (.int (1 : Int32))])) _
    refine XS.icmpNo X3.here hx rfl (hb hby d6_7) rfl (tlt (by decide : (1 : Int32) < (4 : Int32))).2.1 ?_
    refine XS.aloadN X3.here hx rfl (hb hby d6_10) rfl rfl ?_
    refine XS.iloadN X3.here hx rfl (hb hby d6_11) rfl ?_
    refine X3.caload hx (j := (1 : Int32)) (v := (.int c1)) (by rw [e3]; exact Ar7.1) (State.isArrayOf_alike hZ.alike Ar7.2.1) Ar7.2.2 hin7 hat7 (g := (mkF m 12 #[rv u0, iv (1 : Int32), rv u2, iv (1 : Int32), iv (4 : Int32), iv (1 : Int32), iv c0] [(.int (1 : Int32)), (.ref u0)])) rfl rfl (hb hby d6_12) _ ?_
    refine XS.istore X3.here hx rfl (hb hby d6_13) rfl (l' := #[rv u0, iv (1 : Int32), rv u2, iv (1 : Int32), iv (4 : Int32), iv (1 : Int32), iv c1]) rfl ?_
    refine XS.iload X3.here hx rfl (hb hby d6_15) rfl ?_
    refine XS.sipush X3.here hx rfl (hb hby d6_17) ?_
    refine XS.icmpNo X3.here hx rfl (hb hby d6_20) rfl (tlt hp1).2.2.2 ?_
    refine XS.iload X3.here hx rfl (hb hby d6_23) rfl ?_
    show Steps _ _ _ (T3.setTop (mkF m 25 #[rv u0, iv (1 : Int32), rv u2, iv (1 : Int32), iv (4 : Int32), iv (1 : Int32), iv c1] [(.int (1 : Int32))])) _
    exact retI X3 hx Bd.returns (hb hby d6_25) hr
  · show Q_rmC5_4_1 Z u0 u2 kA c0 c1 c2 c3 kB d0 d1 d2 d3 h0 n0 _ T3.heap _
    rw [e3]
    exact ⟨rfl, N4, K5, V3⟩

theorem ef_rmC5_4_2 (m : MethodId) (x0 : Addr) (x1 : Int32) (x2 : Addr) (x3 : Int32) (x4 : Int32) : entryFrame m #[(.ref x0), (.int x1), (.ref x2), (.int x3), (.int x4)] 7 = mkF m 0 #[rv x0, iv x1, rv x2, iv x3, iv x4, .unset, .unset] [] := by first | (simp [entryFrame, mkF, argsToLocals, Value.category]; done) | rfl
def Q_rmC5_4_2 (Z : State) (u0 : Addr) (u2 : Addr) (kA : ClassId) (c0 : Int32) (c1 : Int32) (c2 : Int32) (c3 : Int32) (kB : ClassId) (d0 : Int32) (d1 : Int32) (d2 : Int32) (d3 : Int32) (h0 : Heap) (n0 : Nat) (v : Option Value) (h : Heap) (L : List Loc) : Prop := (v = (some (.int (2 : Int32))) ∧ Fr n0 L ∧ Keep h0 h [u2] ∧ Arv Z h u2 kB .byte (4 : Int32) [(.int ((c0.toInt8.toInt32).toInt8.toInt32)), (.int ((c1.toInt8.toInt32).toInt8.toInt32)), (.int d2), (.int d3)] (.int (0 : Int32)))
set_option maxRecDepth 65536 in
set_option maxHeartbeats 40000000 in
theorem rmC5_4_2 (l : Launch) (Z : State) (a0 : Array Value) (hw : ∀ d ∈ tables_1, d.before a0 Z = true) (ws : List Jvm.Cond) (u0 : Addr) (u2 : Addr) (kA : ClassId) (c0 : Int32) (c1 : Int32) (c2 : Int32) (c3 : Int32) (kB : ClassId) (d0 : Int32) (d1 : Int32) (d2 : Int32) (d3 : Int32) (h0 : Heap) (n0 : Nat) (Z0 : n0 ≤ h0.size) (P_V_u0 : Arv Z h0 u0 kA .char (4 : Int32) [(.int c0), (.int c1), (.int c2), (.int c3)] (.int (0 : Int32))) (P_V_u2 : Arv Z h0 u2 kB .byte (4 : Int32) [(.int d0), (.int d1), (.int d2), (.int d3)] (.int (0 : Int32))) (neA : u0 ≠ u2) (hp0 : ¬ ((255 : Int32) < c0)) (hp1 : ¬ ((255 : Int32) < c1)) (hp2 : (255 : Int32) < c2) (g_u2 : n0 ≤ u2) :
    MetFree l own_y5 (head1 (Jvm.Cond.code own_y5 jdk_52_method_21_code 7 (some .int) :: ws) ({ frames := 0, cells := 0, slots := 0, locals := 0 } : Room)) (fun a U => a = #[(.ref u0), (.int (0 : Int32)), (.ref u2), (.int (0 : Int32)), (.int (4 : Int32))] ∧ Z.Warmed39 U.vm ∧ U.heap = h0) (fun _ _ _ _ _ => True) (fun _ U o U' => ∃ v L, o = .returned v ∧ Q_rmC5_4_2 Z u0 u2 kA c0 c1 c2 c3 kB d0 d1 d2 d3 h0 n0 v U'.heap L ∧ FrameEnd U o U' L ({ frames := 0, cells := 0, slots := 0, locals := 0 } : Room).cells ({ frames := 0, cells := 0, slots := 0, locals := 0 } : Room).slots) := by
  refine MetFree.of_bodySF (plainFor_of_name pn_6) hisR ?_
  intro p e s m args below meth c s₁ Bd hml0 hP hK
  obtain ⟨rfl, hZ, hh⟩ := hP
  have hx := Bd.exec
  have hby := Bd.bytes
  have hml : c.maxLocals = 7 := hml0
  have hown : s.vm.findClass "java/lang/StringUTF16" = some m.cls := findClass_of_methodNamed Bd.named
  have hnm := (name_of_methodNamed Bd.named Bd.method).1
  have X0 : Stand p l e ({ frames := 0, cells := 0, slots := 0, locals := 0 } : Room) s m #[(.ref u0), (.int (0 : Int32)), (.ref u2), (.int (0 : Int32)), (.int (4 : Int32))] below meth c s₁ [] 0 0 := Stand.of_body Bd
  have e0 : s₁.heap = h0 := by rw [← hh, Bd.state]; rfl
  have N0 := Fr.nil n0
  have pre0 : ∀ t, Steps p.tables e below (s₁.setTop (mkF m 0 #[rv u0, iv (0 : Int32), rv u2, iv (0 : Int32), iv (4 : Int32), .unset, .unset] [])) t → Steps p.tables e below (s₁.setTop (entryFrame m #[(.ref u0), (.int (0 : Int32)), (.ref u2), (.int (0 : Int32)), (.int (4 : Int32))] 7)) t := fun t k => castTop (ef_rmC5_4_2 m u0 (0 : Int32) u2 (0 : Int32) (4 : Int32)) k
  obtain ⟨cl1, Ar1, qq1, S1, N1_, H1, G1⟩ := id P_V_u0
  have hin1 : ¬ ((0 : Int32) < 0 ∨ cl1.slots.size ≤ ((0 : Int32)).toNatClampNeg) := inb_of S1 ⟨by decide, by decide⟩
  have hat1 : cl1.slots[((0 : Int32)).toNatClampNeg]? = some (.int c0) := H1.at hin1 rfl
  obtain ⟨cl2, Ar2, qq2, S2, N2_, H2, G2⟩ := id P_V_u2
  have hin2 : ¬ ((0 : Int32) < 0 ∨ cl2.slots.size ≤ ((0 : Int32)).toNatClampNeg) := inb_of S2 ⟨by decide, by decide⟩
  obtain ⟨T3, h3, X3, e3, W3, st3⟩ := stB X0 hx hZ e0 Ar2 (j := (0 : Int32)) hin2 (g := (mkF m 31 #[rv u0, iv (0 : Int32), rv u2, iv (0 : Int32), iv (4 : Int32), iv (0 : Int32), iv c0] [(.int (c0.toInt8.toInt32)), (.int (0 : Int32)), (.ref u2)])) rfl rfl (hb hby d6_31)
  have V3 : Arv Z h3 u2 kB .byte (4 : Int32) [(.int ((c0.toInt8.toInt32).toInt8.toInt32)), (.int d1), (.int d2), (.int d3)] (.int (0 : Int32)) := Arv.set Ar2 qq2 S2 N2_ H2 G2 (fits_nar_byte _) W3 0 rfl (Nat.le_of_ble_eq_true rfl)
  have N4 := Fr.snoc X3 N0 g_u2
  have K5 : Keep h0 h3 [u2] := (Keep.refl h0 [u2]).wr W3 (Or.inl (List.mem_of_getElem? (i := 0) rfl))
  have f6 : Arv Z h3 u0 kA .char (4 : Int32) [(.int c0), (.int c1), (.int c2), (.int c3)] (.int (0 : Int32)) := (P_V_u0.other W3 neA)
  obtain ⟨cl7, Ar7, qq7, S7, N7_, H7, G7⟩ := id f6
  have hin7 : ¬ ((1 : Int32) < 0 ∨ cl7.slots.size ≤ ((1 : Int32)).toNatClampNeg) := inb_of S7 ⟨by decide, by decide⟩
  have hat7 : cl7.slots[((1 : Int32)).toNatClampNeg]? = some (.int c1) := H7.at hin7 rfl
  obtain ⟨cl8, Ar8, qq8, S8, N8_, H8, G8⟩ := id V3
  have hin8 : ¬ ((1 : Int32) < 0 ∨ cl8.slots.size ≤ ((1 : Int32)).toNatClampNeg) := inb_of S8 ⟨by decide, by decide⟩
  obtain ⟨T9, h9, X9, e9, W9, st9⟩ := stB X3 hx hZ e3 Ar8 (j := (1 : Int32)) hin8 (g := (mkF m 31 #[rv u0, iv (1 : Int32), rv u2, iv (1 : Int32), iv (4 : Int32), iv (1 : Int32), iv c1] [(.int (c1.toInt8.toInt32)), (.int (1 : Int32)), (.ref u2)])) rfl rfl (hb hby d6_31)
  have V9 : Arv Z h9 u2 kB .byte (4 : Int32) [(.int ((c0.toInt8.toInt32).toInt8.toInt32)), (.int ((c1.toInt8.toInt32).toInt8.toInt32)), (.int d2), (.int d3)] (.int (0 : Int32)) := Arv.set Ar8 qq8 S8 N8_ H8 G8 (fits_nar_byte _) W9 1 rfl (Nat.le_of_ble_eq_true rfl)
  have N10 := Fr.snoc X9 N4 g_u2
  have K11 : Keep h0 h9 [u2] := K5.wr W9 (Or.inl (List.mem_of_getElem? (i := 0) rfl))
  have f12 : Arv Z h9 u0 kA .char (4 : Int32) [(.int c0), (.int c1), (.int c2), (.int c3)] (.int (0 : Int32)) := (f6.other W9 neA)
  obtain ⟨cl13, Ar13, qq13, S13, N13_, H13, G13⟩ := id f12
  have hin13 : ¬ ((2 : Int32) < 0 ∨ cl13.slots.size ≤ ((2 : Int32)).toNatClampNeg) := inb_of S13 ⟨by decide, by decide⟩
  have hat13 : cl13.slots[((2 : Int32)).toNatClampNeg]? = some (.int c2) := H13.at hin13 rfl
  obtain ⟨fs, hr, hrun, hended, hW, hsame⟩ := X9.leave (v := some (.int (2 : Int32))) (fun h => by rw [Bd.returns] at h; cases h)
  refine ⟨_, _, pre0 _ ?_, hrun, hended, _, _, rfl, ?_, ⟨_, rfl⟩, hW, hsame.mono (by decide) (by decide)⟩
  · refine XS.iconst X0.here hx rfl (hb hby d6_0) ?_
    refine XS.istore X0.here hx rfl (hb hby d6_1) rfl (l' := #[rv u0, iv (0 : Int32), rv u2, iv (0 : Int32), iv (4 : Int32), iv (0 : Int32), .unset]) rfl ?_
    refine XS.iload X0.here hx rfl (hb hby d6_3) rfl ?_
    refine XS.iload X0.here hx rfl (hb hby d6_5) rfl ?_
    refine XS.icmpNo X0.here hx rfl (hb hby d6_7) rfl (tlt (by decide : (0 : Int32) < (4 : Int32))).2.1 ?_
    refine XS.aloadN X0.here hx rfl (hb hby d6_10) rfl rfl ?_
    refine XS.iloadN X0.here hx rfl (hb hby d6_11) rfl ?_
    refine X0.caload hx (j := (0 : Int32)) (v := (.int c0)) (by rw [e0]; exact Ar1.1) (State.isArrayOf_alike hZ.alike Ar1.2.1) Ar1.2.2 hin1 hat1 (g := (mkF m 12 #[rv u0, iv (0 : Int32), rv u2, iv (0 : Int32), iv (4 : Int32), iv (0 : Int32), .unset] [(.int (0 : Int32)), (.ref u0)])) rfl rfl (hb hby d6_12) _ ?_
    refine XS.istore X0.here hx rfl (hb hby d6_13) rfl (l' := #[rv u0, iv (0 : Int32), rv u2, iv (0 : Int32), iv (4 : Int32), iv (0 : Int32), iv c0]) rfl ?_
    refine XS.iload X0.here hx rfl (hb hby d6_15) rfl ?_
    refine XS.sipush X0.here hx rfl (hb hby d6_17) ?_
    refine XS.icmpYes X0.here hx rfl (pc0 := 20) (pc' := 26) rfl (hb hby d6_20) rfl (flt hp0).2.2.2 (by decide) (by decide) ?_
    refine XS.aloadN X0.here hx rfl (hb hby d6_26) rfl rfl ?_
    refine XS.iloadN X0.here hx rfl (hb hby d6_27) rfl ?_
    refine XS.iload X0.here hx rfl (hb hby d6_28) rfl ?_
    refine XS.i2b X0.here hx rfl (hb hby d6_30) rfl ?_
    refine st3 _ ?_
    refine XS.iinc X3.here hx rfl (hb hby d6_32) rfl (l' := #[rv u0, iv (1 : Int32), rv u2, iv (0 : Int32), iv (4 : Int32), iv (0 : Int32), iv c0]) rfl ?_
    refine XS.iinc X3.here hx rfl (hb hby d6_35) rfl (l' := #[rv u0, iv (1 : Int32), rv u2, iv (1 : Int32), iv (4 : Int32), iv (0 : Int32), iv c0]) rfl ?_
    refine XS.iinc X3.here hx rfl (hb hby d6_38) rfl (l' := #[rv u0, iv (1 : Int32), rv u2, iv (1 : Int32), iv (4 : Int32), iv (1 : Int32), iv c0]) rfl ?_
    refine XS.goto X3.here hx rfl (pc0 := 41) (pc' := 3) rfl (hb hby d6_41) (by decide) (by decide) ?_
    refine XS.iload X3.here hx rfl (hb hby d6_3) rfl ?_
    refine XS.iload X3.here hx rfl (hb hby d6_5) rfl ?_
    show Steps _ _ _ (T3.setTop (mkF m 7 #[rv u0, iv (1 : Int32), rv u2, iv (1 : Int32), iv (4 : Int32), iv (1 : Int32), iv c0] [(.int (4 : Int32)), (.int (1 : Int32))])) _
    refine XS.icmpNo X3.here hx rfl (hb hby d6_7) rfl (tlt (by decide : (1 : Int32) < (4 : Int32))).2.1 ?_
    refine XS.aloadN X3.here hx rfl (hb hby d6_10) rfl rfl ?_
    refine XS.iloadN X3.here hx rfl (hb hby d6_11) rfl ?_
    refine X3.caload hx (j := (1 : Int32)) (v := (.int c1)) (by rw [e3]; exact Ar7.1) (State.isArrayOf_alike hZ.alike Ar7.2.1) Ar7.2.2 hin7 hat7 (g := (mkF m 12 #[rv u0, iv (1 : Int32), rv u2, iv (1 : Int32), iv (4 : Int32), iv (1 : Int32), iv c0] [(.int (1 : Int32)), (.ref u0)])) rfl rfl (hb hby d6_12) _ ?_
    refine XS.istore X3.here hx rfl (hb hby d6_13) rfl (l' := #[rv u0, iv (1 : Int32), rv u2, iv (1 : Int32), iv (4 : Int32), iv (1 : Int32), iv c1]) rfl ?_
    refine XS.iload X3.here hx rfl (hb hby d6_15) rfl ?_
    refine XS.sipush X3.here hx rfl (hb hby d6_17) ?_
    refine XS.icmpYes X3.here hx rfl (pc0 := 20) (pc' := 26) rfl (hb hby d6_20) rfl (flt hp1).2.2.2 (by decide) (by decide) ?_
    refine XS.aloadN X3.here hx rfl (hb hby d6_26) rfl rfl ?_
    refine XS.iloadN X3.here hx rfl (hb hby d6_27) rfl ?_
    refine XS.iload X3.here hx rfl (hb hby d6_28) rfl ?_
    refine XS.i2b X3.here hx rfl (hb hby d6_30) rfl ?_
    refine st9 _ ?_
    refine XS.iinc X9.here hx rfl (hb hby d6_32) rfl (l' := #[rv u0, iv (2 : Int32), rv u2, iv (1 : Int32), iv (4 : Int32), iv (1 : Int32), iv c1]) rfl ?_
    refine XS.iinc X9.here hx rfl (hb hby d6_35) rfl (l' := #[rv u0, iv (2 : Int32), rv u2, iv (2 : Int32), iv (4 : Int32), iv (1 : Int32), iv c1]) rfl ?_
    refine XS.iinc X9.here hx rfl (hb hby d6_38) rfl (l' := #[rv u0, iv (2 : Int32), rv u2, iv (2 : Int32), iv (4 : Int32), iv (2 : Int32), iv c1]) rfl ?_
    refine XS.goto X9.here hx rfl (pc0 := 41) (pc' := 3) rfl (hb hby d6_41) (by decide) (by decide) ?_
    refine XS.iload X9.here hx rfl (hb hby d6_3) rfl ?_
    refine XS.iload X9.here hx rfl (hb hby d6_5) rfl ?_
    refine XS.icmpNo X9.here hx rfl (hb hby d6_7) rfl (tlt (by decide : (2 : Int32) < (4 : Int32))).2.1 ?_
    refine XS.aloadN X9.here hx rfl (hb hby d6_10) rfl rfl ?_
    refine XS.iloadN X9.here hx rfl (hb hby d6_11) rfl ?_
    refine X9.caload hx (j := (2 : Int32)) (v := (.int c2)) (by rw [e9]; exact Ar13.1) (State.isArrayOf_alike hZ.alike Ar13.2.1) Ar13.2.2 hin13 hat13 (g := (mkF m 12 #[rv u0, iv (2 : Int32), rv u2, iv (2 : Int32), iv (4 : Int32), iv (2 : Int32), iv c1] [(.int (2 : Int32)), (.ref u0)])) rfl rfl (hb hby d6_12) _ ?_
    refine XS.istore X9.here hx rfl (hb hby d6_13) rfl (l' := #[rv u0, iv (2 : Int32), rv u2, iv (2 : Int32), iv (4 : Int32), iv (2 : Int32), iv c2]) rfl ?_
    show Steps _ _ _ (T9.setTop (mkF m 15 #[rv u0, iv (2 : Int32), rv u2, iv (2 : Int32), iv (4 : Int32), iv (2 : Int32), iv c2] [])) _
    refine XS.iload X9.here hx rfl (hb hby d6_15) rfl ?_
    refine XS.sipush X9.here hx rfl (hb hby d6_17) ?_
    refine XS.icmpNo X9.here hx rfl (hb hby d6_20) rfl (tlt hp2).2.2.2 ?_
    refine XS.iload X9.here hx rfl (hb hby d6_23) rfl ?_
    show Steps _ _ _ (T9.setTop (mkF m 25 #[rv u0, iv (2 : Int32), rv u2, iv (2 : Int32), iv (4 : Int32), iv (2 : Int32), iv c2] [(.int (2 : Int32))])) _
    exact retI X9 hx Bd.returns (hb hby d6_25) hr
  · show Q_rmC5_4_2 Z u0 u2 kA c0 c1 c2 c3 kB d0 d1 d2 d3 h0 n0 _ T9.heap _
    rw [e9]
    exact ⟨rfl, N10, K11, V9⟩

theorem ef_rmC5_4_3 (m : MethodId) (x0 : Addr) (x1 : Int32) (x2 : Addr) (x3 : Int32) (x4 : Int32) : entryFrame m #[(.ref x0), (.int x1), (.ref x2), (.int x3), (.int x4)] 7 = mkF m 0 #[rv x0, iv x1, rv x2, iv x3, iv x4, .unset, .unset] [] := by first | (simp [entryFrame, mkF, argsToLocals, Value.category]; done) | rfl
def Q_rmC5_4_3 (Z : State) (u0 : Addr) (u2 : Addr) (kA : ClassId) (c0 : Int32) (c1 : Int32) (c2 : Int32) (c3 : Int32) (kB : ClassId) (d0 : Int32) (d1 : Int32) (d2 : Int32) (d3 : Int32) (h0 : Heap) (n0 : Nat) (v : Option Value) (h : Heap) (L : List Loc) : Prop := (v = (some (.int (3 : Int32))) ∧ Fr n0 L ∧ Keep h0 h [u2] ∧ Arv Z h u2 kB .byte (4 : Int32) [(.int ((c0.toInt8.toInt32).toInt8.toInt32)), (.int ((c1.toInt8.toInt32).toInt8.toInt32)), (.int ((c2.toInt8.toInt32).toInt8.toInt32)), (.int d3)] (.int (0 : Int32)))
set_option maxRecDepth 65536 in
set_option maxHeartbeats 40000000 in
theorem rmC5_4_3 (l : Launch) (Z : State) (a0 : Array Value) (hw : ∀ d ∈ tables_1, d.before a0 Z = true) (ws : List Jvm.Cond) (u0 : Addr) (u2 : Addr) (kA : ClassId) (c0 : Int32) (c1 : Int32) (c2 : Int32) (c3 : Int32) (kB : ClassId) (d0 : Int32) (d1 : Int32) (d2 : Int32) (d3 : Int32) (h0 : Heap) (n0 : Nat) (Z0 : n0 ≤ h0.size) (P_V_u0 : Arv Z h0 u0 kA .char (4 : Int32) [(.int c0), (.int c1), (.int c2), (.int c3)] (.int (0 : Int32))) (P_V_u2 : Arv Z h0 u2 kB .byte (4 : Int32) [(.int d0), (.int d1), (.int d2), (.int d3)] (.int (0 : Int32))) (neA : u0 ≠ u2) (hp0 : ¬ ((255 : Int32) < c0)) (hp1 : ¬ ((255 : Int32) < c1)) (hp2 : ¬ ((255 : Int32) < c2)) (hp3 : (255 : Int32) < c3) (g_u2 : n0 ≤ u2) :
    MetFree l own_y5 (head1 (Jvm.Cond.code own_y5 jdk_52_method_21_code 7 (some .int) :: ws) ({ frames := 0, cells := 0, slots := 0, locals := 0 } : Room)) (fun a U => a = #[(.ref u0), (.int (0 : Int32)), (.ref u2), (.int (0 : Int32)), (.int (4 : Int32))] ∧ Z.Warmed39 U.vm ∧ U.heap = h0) (fun _ _ _ _ _ => True) (fun _ U o U' => ∃ v L, o = .returned v ∧ Q_rmC5_4_3 Z u0 u2 kA c0 c1 c2 c3 kB d0 d1 d2 d3 h0 n0 v U'.heap L ∧ FrameEnd U o U' L ({ frames := 0, cells := 0, slots := 0, locals := 0 } : Room).cells ({ frames := 0, cells := 0, slots := 0, locals := 0 } : Room).slots) := by
  refine MetFree.of_bodySF (plainFor_of_name pn_6) hisR ?_
  intro p e s m args below meth c s₁ Bd hml0 hP hK
  obtain ⟨rfl, hZ, hh⟩ := hP
  have hx := Bd.exec
  have hby := Bd.bytes
  have hml : c.maxLocals = 7 := hml0
  have hown : s.vm.findClass "java/lang/StringUTF16" = some m.cls := findClass_of_methodNamed Bd.named
  have hnm := (name_of_methodNamed Bd.named Bd.method).1
  have X0 : Stand p l e ({ frames := 0, cells := 0, slots := 0, locals := 0 } : Room) s m #[(.ref u0), (.int (0 : Int32)), (.ref u2), (.int (0 : Int32)), (.int (4 : Int32))] below meth c s₁ [] 0 0 := Stand.of_body Bd
  have e0 : s₁.heap = h0 := by rw [← hh, Bd.state]; rfl
  have N0 := Fr.nil n0
  have pre0 : ∀ t, Steps p.tables e below (s₁.setTop (mkF m 0 #[rv u0, iv (0 : Int32), rv u2, iv (0 : Int32), iv (4 : Int32), .unset, .unset] [])) t → Steps p.tables e below (s₁.setTop (entryFrame m #[(.ref u0), (.int (0 : Int32)), (.ref u2), (.int (0 : Int32)), (.int (4 : Int32))] 7)) t := fun t k => castTop (ef_rmC5_4_3 m u0 (0 : Int32) u2 (0 : Int32) (4 : Int32)) k
  obtain ⟨cl1, Ar1, qq1, S1, N1_, H1, G1⟩ := id P_V_u0
  have hin1 : ¬ ((0 : Int32) < 0 ∨ cl1.slots.size ≤ ((0 : Int32)).toNatClampNeg) := inb_of S1 ⟨by decide, by decide⟩
  have hat1 : cl1.slots[((0 : Int32)).toNatClampNeg]? = some (.int c0) := H1.at hin1 rfl
  obtain ⟨cl2, Ar2, qq2, S2, N2_, H2, G2⟩ := id P_V_u2
  have hin2 : ¬ ((0 : Int32) < 0 ∨ cl2.slots.size ≤ ((0 : Int32)).toNatClampNeg) := inb_of S2 ⟨by decide, by decide⟩
  obtain ⟨T3, h3, X3, e3, W3, st3⟩ := stB X0 hx hZ e0 Ar2 (j := (0 : Int32)) hin2 (g := (mkF m 31 #[rv u0, iv (0 : Int32), rv u2, iv (0 : Int32), iv (4 : Int32), iv (0 : Int32), iv c0] [(.int (c0.toInt8.toInt32)), (.int (0 : Int32)), (.ref u2)])) rfl rfl (hb hby d6_31)
  have V3 : Arv Z h3 u2 kB .byte (4 : Int32) [(.int ((c0.toInt8.toInt32).toInt8.toInt32)), (.int d1), (.int d2), (.int d3)] (.int (0 : Int32)) := Arv.set Ar2 qq2 S2 N2_ H2 G2 (fits_nar_byte _) W3 0 rfl (Nat.le_of_ble_eq_true rfl)
  have N4 := Fr.snoc X3 N0 g_u2
  have K5 : Keep h0 h3 [u2] := (Keep.refl h0 [u2]).wr W3 (Or.inl (List.mem_of_getElem? (i := 0) rfl))
  have f6 : Arv Z h3 u0 kA .char (4 : Int32) [(.int c0), (.int c1), (.int c2), (.int c3)] (.int (0 : Int32)) := (P_V_u0.other W3 neA)
  obtain ⟨cl7, Ar7, qq7, S7, N7_, H7, G7⟩ := id f6
  have hin7 : ¬ ((1 : Int32) < 0 ∨ cl7.slots.size ≤ ((1 : Int32)).toNatClampNeg) := inb_of S7 ⟨by decide, by decide⟩
  have hat7 : cl7.slots[((1 : Int32)).toNatClampNeg]? = some (.int c1) := H7.at hin7 rfl
  obtain ⟨cl8, Ar8, qq8, S8, N8_, H8, G8⟩ := id V3
  have hin8 : ¬ ((1 : Int32) < 0 ∨ cl8.slots.size ≤ ((1 : Int32)).toNatClampNeg) := inb_of S8 ⟨by decide, by decide⟩
  obtain ⟨T9, h9, X9, e9, W9, st9⟩ := stB X3 hx hZ e3 Ar8 (j := (1 : Int32)) hin8 (g := (mkF m 31 #[rv u0, iv (1 : Int32), rv u2, iv (1 : Int32), iv (4 : Int32), iv (1 : Int32), iv c1] [(.int (c1.toInt8.toInt32)), (.int (1 : Int32)), (.ref u2)])) rfl rfl (hb hby d6_31)
  have V9 : Arv Z h9 u2 kB .byte (4 : Int32) [(.int ((c0.toInt8.toInt32).toInt8.toInt32)), (.int ((c1.toInt8.toInt32).toInt8.toInt32)), (.int d2), (.int d3)] (.int (0 : Int32)) := Arv.set Ar8 qq8 S8 N8_ H8 G8 (fits_nar_byte _) W9 1 rfl (Nat.le_of_ble_eq_true rfl)
  have N10 := Fr.snoc X9 N4 g_u2
  have K11 : Keep h0 h9 [u2] := K5.wr W9 (Or.inl (List.mem_of_getElem? (i := 0) rfl))
  have f12 : Arv Z h9 u0 kA .char (4 : Int32) [(.int c0), (.int c1), (.int c2), (.int c3)] (.int (0 : Int32)) := (f6.other W9 neA)
  obtain ⟨cl13, Ar13, qq13, S13, N13_, H13, G13⟩ := id f12
  have hin13 : ¬ ((2 : Int32) < 0 ∨ cl13.slots.size ≤ ((2 : Int32)).toNatClampNeg) := inb_of S13 ⟨by decide, by decide⟩
  have hat13 : cl13.slots[((2 : Int32)).toNatClampNeg]? = some (.int c2) := H13.at hin13 rfl
  obtain ⟨cl14, Ar14, qq14, S14, N14_, H14, G14⟩ := id V9
  have hin14 : ¬ ((2 : Int32) < 0 ∨ cl14.slots.size ≤ ((2 : Int32)).toNatClampNeg) := inb_of S14 ⟨by decide, by decide⟩
  obtain ⟨T15, h15, X15, e15, W15, st15⟩ := stB X9 hx hZ e9 Ar14 (j := (2 : Int32)) hin14 (g := (mkF m 31 #[rv u0, iv (2 : Int32), rv u2, iv (2 : Int32), iv (4 : Int32), iv (2 : Int32), iv c2] [(.int (c2.toInt8.toInt32)), (.int (2 : Int32)), (.ref u2)])) rfl rfl (hb hby d6_31)
  have V15 : Arv Z h15 u2 kB .byte (4 : Int32) [(.int ((c0.toInt8.toInt32).toInt8.toInt32)), (.int ((c1.toInt8.toInt32).toInt8.toInt32)), (.int ((c2.toInt8.toInt32).toInt8.toInt32)), (.int d3)] (.int (0 : Int32)) := Arv.set Ar14 qq14 S14 N14_ H14 G14 (fits_nar_byte _) W15 2 rfl (Nat.le_of_ble_eq_true rfl)
  have N16 := Fr.snoc X15 N10 g_u2
  have K17 : Keep h0 h15 [u2] := K11.wr W15 (Or.inl (List.mem_of_getElem? (i := 0) rfl))
  have f18 : Arv Z h15 u0 kA .char (4 : Int32) [(.int c0), (.int c1), (.int c2), (.int c3)] (.int (0 : Int32)) := (f12.other W15 neA)
  obtain ⟨cl19, Ar19, qq19, S19, N19_, H19, G19⟩ := id f18
  have hin19 : ¬ ((3 : Int32) < 0 ∨ cl19.slots.size ≤ ((3 : Int32)).toNatClampNeg) := inb_of S19 ⟨by decide, by decide⟩
  have hat19 : cl19.slots[((3 : Int32)).toNatClampNeg]? = some (.int c3) := H19.at hin19 rfl
  obtain ⟨fs, hr, hrun, hended, hW, hsame⟩ := X15.leave (v := some (.int (3 : Int32))) (fun h => by rw [Bd.returns] at h; cases h)
  refine ⟨_, _, pre0 _ ?_, hrun, hended, _, _, rfl, ?_, ⟨_, rfl⟩, hW, hsame.mono (by decide) (by decide)⟩
  · refine XS.iconst X0.here hx rfl (hb hby d6_0) ?_
    refine XS.istore X0.here hx rfl (hb hby d6_1) rfl (l' := #[rv u0, iv (0 : Int32), rv u2, iv (0 : Int32), iv (4 : Int32), iv (0 : Int32), .unset]) rfl ?_
    refine XS.iload X0.here hx rfl (hb hby d6_3) rfl ?_
    refine XS.iload X0.here hx rfl (hb hby d6_5) rfl ?_
    refine XS.icmpNo X0.here hx rfl (hb hby d6_7) rfl (tlt (by decide : (0 : Int32) < (4 : Int32))).2.1 ?_
    refine XS.aloadN X0.here hx rfl (hb hby d6_10) rfl rfl ?_
    refine XS.iloadN X0.here hx rfl (hb hby d6_11) rfl ?_
    refine X0.caload hx (j := (0 : Int32)) (v := (.int c0)) (by rw [e0]; exact Ar1.1) (State.isArrayOf_alike hZ.alike Ar1.2.1) Ar1.2.2 hin1 hat1 (g := (mkF m 12 #[rv u0, iv (0 : Int32), rv u2, iv (0 : Int32), iv (4 : Int32), iv (0 : Int32), .unset] [(.int (0 : Int32)), (.ref u0)])) rfl rfl (hb hby d6_12) _ ?_
    refine XS.istore X0.here hx rfl (hb hby d6_13) rfl (l' := #[rv u0, iv (0 : Int32), rv u2, iv (0 : Int32), iv (4 : Int32), iv (0 : Int32), iv c0]) rfl ?_
    refine XS.iload X0.here hx rfl (hb hby d6_15) rfl ?_
    refine XS.sipush X0.here hx rfl (hb hby d6_17) ?_
    refine XS.icmpYes X0.here hx rfl (pc0 := 20) (pc' := 26) rfl (hb hby d6_20) rfl (flt hp0).2.2.2 (by decide) (by decide) ?_
    refine XS.aloadN X0.here hx rfl (hb hby d6_26) rfl rfl ?_
    refine XS.iloadN X0.here hx rfl (hb hby d6_27) rfl ?_
    refine XS.iload X0.here hx rfl (hb hby d6_28) rfl ?_
    refine XS.i2b X0.here hx rfl (hb hby d6_30) rfl ?_
    refine st3 _ ?_
    refine XS.iinc X3.here hx rfl (hb hby d6_32) rfl (l' := #[rv u0, iv (1 : Int32), rv u2, iv (0 : Int32), iv (4 : Int32), iv (0 : Int32), iv c0]) rfl ?_
    refine XS.iinc X3.here hx rfl (hb hby d6_35) rfl (l' := #[rv u0, iv (1 : Int32), rv u2, iv (1 : Int32), iv (4 : Int32), iv (0 : Int32), iv c0]) rfl ?_
    refine XS.iinc X3.here hx rfl (hb hby d6_38) rfl (l' := #[rv u0, iv (1 : Int32), rv u2, iv (1 : Int32), iv (4 : Int32), iv (1 : Int32), iv c0]) rfl ?_
    refine XS.goto X3.here hx rfl (pc0 := 41) (pc' := 3) rfl (hb hby d6_41) (by decide) (by decide) ?_
    refine XS.iload X3.here hx rfl (hb hby d6_3) rfl ?_
    refine XS.iload X3.here hx rfl (hb hby d6_5) rfl ?_
    show Steps _ _ _ (T3.setTop (mkF m 7 #[rv u0, iv (1 : Int32), rv u2, iv (1 : Int32), iv (4 : Int32), iv (1 : Int32), iv c0] [(.int (4 : Int32)), (.int (1 : Int32))])) _
    refine XS.icmpNo X3.here hx rfl (hb hby d6_7) rfl (tlt (by decide : (1 : Int32) < (4 : Int32))).2.1 ?_
    refine XS.aloadN X3.here hx rfl (hb hby d6_10) rfl rfl ?_
    refine XS.iloadN X3.here hx rfl (hb hby d6_11) rfl ?_
    refine X3.caload hx (j := (1 : Int32)) (v := (.int c1)) (by rw [e3]; exact Ar7.1) (State.isArrayOf_alike hZ.alike Ar7.2.1) Ar7.2.2 hin7 hat7 (g := (mkF m 12 #[rv u0, iv (1 : Int32), rv u2, iv (1 : Int32), iv (4 : Int32), iv (1 : Int32), iv c0] [(.int (1 : Int32)), (.ref u0)])) rfl rfl (hb hby d6_12) _ ?_
    refine XS.istore X3.here hx rfl (hb hby d6_13) rfl (l' := #[rv u0, iv (1 : Int32), rv u2, iv (1 : Int32), iv (4 : Int32), iv (1 : Int32), iv c1]) rfl ?_
    refine XS.iload X3.here hx rfl (hb hby d6_15) rfl ?_
    refine XS.sipush X3.here hx rfl (hb hby d6_17) ?_
    refine XS.icmpYes X3.here hx rfl (pc0 := 20) (pc' := 26) rfl (hb hby d6_20) rfl (flt hp1).2.2.2 (by decide) (by decide) ?_
    refine XS.aloadN X3.here hx rfl (hb hby d6_26) rfl rfl ?_
    refine XS.iloadN X3.here hx rfl (hb hby d6_27) rfl ?_
    refine XS.iload X3.here hx rfl (hb hby d6_28) rfl ?_
    refine XS.i2b X3.here hx rfl (hb hby d6_30) rfl ?_
    refine st9 _ ?_
    refine XS.iinc X9.here hx rfl (hb hby d6_32) rfl (l' := #[rv u0, iv (2 : Int32), rv u2, iv (1 : Int32), iv (4 : Int32), iv (1 : Int32), iv c1]) rfl ?_
    refine XS.iinc X9.here hx rfl (hb hby d6_35) rfl (l' := #[rv u0, iv (2 : Int32), rv u2, iv (2 : Int32), iv (4 : Int32), iv (1 : Int32), iv c1]) rfl ?_
    refine XS.iinc X9.here hx rfl (hb hby d6_38) rfl (l' := #[rv u0, iv (2 : Int32), rv u2, iv (2 : Int32), iv (4 : Int32), iv (2 : Int32), iv c1]) rfl ?_
    refine XS.goto X9.here hx rfl (pc0 := 41) (pc' := 3) rfl (hb hby d6_41) (by decide) (by decide) ?_
    refine XS.iload X9.here hx rfl (hb hby d6_3) rfl ?_
    refine XS.iload X9.here hx rfl (hb hby d6_5) rfl ?_
    refine XS.icmpNo X9.here hx rfl (hb hby d6_7) rfl (tlt (by decide : (2 : Int32) < (4 : Int32))).2.1 ?_
    refine XS.aloadN X9.here hx rfl (hb hby d6_10) rfl rfl ?_
    refine XS.iloadN X9.here hx rfl (hb hby d6_11) rfl ?_
    refine X9.caload hx (j := (2 : Int32)) (v := (.int c2)) (by rw [e9]; exact Ar13.1) (State.isArrayOf_alike hZ.alike Ar13.2.1) Ar13.2.2 hin13 hat13 (g := (mkF m 12 #[rv u0, iv (2 : Int32), rv u2, iv (2 : Int32), iv (4 : Int32), iv (2 : Int32), iv c1] [(.int (2 : Int32)), (.ref u0)])) rfl rfl (hb hby d6_12) _ ?_
    refine XS.istore X9.here hx rfl (hb hby d6_13) rfl (l' := #[rv u0, iv (2 : Int32), rv u2, iv (2 : Int32), iv (4 : Int32), iv (2 : Int32), iv c2]) rfl ?_
    show Steps _ _ _ (T9.setTop (mkF m 15 #[rv u0, iv (2 : Int32), rv u2, iv (2 : Int32), iv (4 : Int32), iv (2 : Int32), iv c2] [])) _
    refine XS.iload X9.here hx rfl (hb hby d6_15) rfl ?_
    refine XS.sipush X9.here hx rfl (hb hby d6_17) ?_
    refine XS.icmpYes X9.here hx rfl (pc0 := 20) (pc' := 26) rfl (hb hby d6_20) rfl (flt hp2).2.2.2 (by decide) (by decide) ?_
    refine XS.aloadN X9.here hx rfl (hb hby d6_26) rfl rfl ?_
    refine XS.iloadN X9.here hx rfl (hb hby d6_27) rfl ?_
    refine XS.iload X9.here hx rfl (hb hby d6_28) rfl ?_
    refine XS.i2b X9.here hx rfl (hb hby d6_30) rfl ?_
    refine st15 _ ?_
    refine XS.iinc X15.here hx rfl (hb hby d6_32) rfl (l' := #[rv u0, iv (3 : Int32), rv u2, iv (2 : Int32), iv (4 : Int32), iv (2 : Int32), iv c2]) rfl ?_
    refine XS.iinc X15.here hx rfl (hb hby d6_35) rfl (l' := #[rv u0, iv (3 : Int32), rv u2, iv (3 : Int32), iv (4 : Int32), iv (2 : Int32), iv c2]) rfl ?_
    refine XS.iinc X15.here hx rfl (hb hby d6_38) rfl (l' := #[rv u0, iv (3 : Int32), rv u2, iv (3 : Int32), iv (4 : Int32), iv (3 : Int32), iv c2]) rfl ?_
    refine XS.goto X15.here hx rfl (pc0 := 41) (pc' := 3) rfl (hb hby d6_41) (by decide) (by decide) ?_
    refine XS.iload X15.here hx rfl (hb hby d6_3) rfl ?_
    refine XS.iload X15.here hx rfl (hb hby d6_5) rfl ?_
    refine XS.icmpNo X15.here hx rfl (hb hby d6_7) rfl (tlt (by decide : (3 : Int32) < (4 : Int32))).2.1 ?_
    refine XS.aloadN X15.here hx rfl (hb hby d6_10) rfl rfl ?_
    refine XS.iloadN X15.here hx rfl (hb hby d6_11) rfl ?_
    refine X15.caload hx (j := (3 : Int32)) (v := (.int c3)) (by rw [e15]; exact Ar19.1) (State.isArrayOf_alike hZ.alike Ar19.2.1) Ar19.2.2 hin19 hat19 (g := (mkF m 12 #[rv u0, iv (3 : Int32), rv u2, iv (3 : Int32), iv (4 : Int32), iv (3 : Int32), iv c2] [(.int (3 : Int32)), (.ref u0)])) rfl rfl (hb hby d6_12) _ ?_
    refine XS.istore X15.here hx rfl (hb hby d6_13) rfl (l' := #[rv u0, iv (3 : Int32), rv u2, iv (3 : Int32), iv (4 : Int32), iv (3 : Int32), iv c3]) rfl ?_
    refine XS.iload X15.here hx rfl (hb hby d6_15) rfl ?_
    refine XS.sipush X15.here hx rfl (hb hby d6_17) ?_
    refine XS.icmpNo X15.here hx rfl (hb hby d6_20) rfl (tlt hp3).2.2.2 ?_
    refine XS.iload X15.here hx rfl (hb hby d6_23) rfl ?_
    show Steps _ _ _ (T15.setTop (mkF m 25 #[rv u0, iv (3 : Int32), rv u2, iv (3 : Int32), iv (4 : Int32), iv (3 : Int32), iv c3] [(.int (3 : Int32))])) _
    exact retI X15 hx Bd.returns (hb hby d6_25) hr
  · show Q_rmC5_4_3 Z u0 u2 kA c0 c1 c2 c3 kB d0 d1 d2 d3 h0 n0 _ T15.heap _
    rw [e15]
    exact ⟨rfl, N16, K17, V15⟩

theorem ef_rmC5_4_4 (m : MethodId) (x0 : Addr) (x1 : Int32) (x2 : Addr) (x3 : Int32) (x4 : Int32) : entryFrame m #[(.ref x0), (.int x1), (.ref x2), (.int x3), (.int x4)] 7 = mkF m 0 #[rv x0, iv x1, rv x2, iv x3, iv x4, .unset, .unset] [] := by first | (simp [entryFrame, mkF, argsToLocals, Value.category]; done) | rfl
def Q_rmC5_4_4 (Z : State) (u0 : Addr) (u2 : Addr) (kA : ClassId) (c0 : Int32) (c1 : Int32) (c2 : Int32) (c3 : Int32) (kB : ClassId) (d0 : Int32) (d1 : Int32) (d2 : Int32) (d3 : Int32) (h0 : Heap) (n0 : Nat) (v : Option Value) (h : Heap) (L : List Loc) : Prop := (v = (some (.int (4 : Int32))) ∧ Fr n0 L ∧ Keep h0 h [u2] ∧ Arv Z h u2 kB .byte (4 : Int32) [(.int ((c0.toInt8.toInt32).toInt8.toInt32)), (.int ((c1.toInt8.toInt32).toInt8.toInt32)), (.int ((c2.toInt8.toInt32).toInt8.toInt32)), (.int ((c3.toInt8.toInt32).toInt8.toInt32))] (.int (0 : Int32)))
set_option maxRecDepth 65536 in
set_option maxHeartbeats 40000000 in
theorem rmC5_4_4 (l : Launch) (Z : State) (a0 : Array Value) (hw : ∀ d ∈ tables_1, d.before a0 Z = true) (ws : List Jvm.Cond) (u0 : Addr) (u2 : Addr) (kA : ClassId) (c0 : Int32) (c1 : Int32) (c2 : Int32) (c3 : Int32) (kB : ClassId) (d0 : Int32) (d1 : Int32) (d2 : Int32) (d3 : Int32) (h0 : Heap) (n0 : Nat) (Z0 : n0 ≤ h0.size) (P_V_u0 : Arv Z h0 u0 kA .char (4 : Int32) [(.int c0), (.int c1), (.int c2), (.int c3)] (.int (0 : Int32))) (P_V_u2 : Arv Z h0 u2 kB .byte (4 : Int32) [(.int d0), (.int d1), (.int d2), (.int d3)] (.int (0 : Int32))) (neA : u0 ≠ u2) (hp0 : ¬ ((255 : Int32) < c0)) (hp1 : ¬ ((255 : Int32) < c1)) (hp2 : ¬ ((255 : Int32) < c2)) (hp3 : ¬ ((255 : Int32) < c3)) (g_u2 : n0 ≤ u2) :
    MetFree l own_y5 (head1 (Jvm.Cond.code own_y5 jdk_52_method_21_code 7 (some .int) :: ws) ({ frames := 0, cells := 0, slots := 0, locals := 0 } : Room)) (fun a U => a = #[(.ref u0), (.int (0 : Int32)), (.ref u2), (.int (0 : Int32)), (.int (4 : Int32))] ∧ Z.Warmed39 U.vm ∧ U.heap = h0) (fun _ _ _ _ _ => True) (fun _ U o U' => ∃ v L, o = .returned v ∧ Q_rmC5_4_4 Z u0 u2 kA c0 c1 c2 c3 kB d0 d1 d2 d3 h0 n0 v U'.heap L ∧ FrameEnd U o U' L ({ frames := 0, cells := 0, slots := 0, locals := 0 } : Room).cells ({ frames := 0, cells := 0, slots := 0, locals := 0 } : Room).slots) := by
  refine MetFree.of_bodySF (plainFor_of_name pn_6) hisR ?_
  intro p e s m args below meth c s₁ Bd hml0 hP hK
  obtain ⟨rfl, hZ, hh⟩ := hP
  have hx := Bd.exec
  have hby := Bd.bytes
  have hml : c.maxLocals = 7 := hml0
  have hown : s.vm.findClass "java/lang/StringUTF16" = some m.cls := findClass_of_methodNamed Bd.named
  have hnm := (name_of_methodNamed Bd.named Bd.method).1
  have X0 : Stand p l e ({ frames := 0, cells := 0, slots := 0, locals := 0 } : Room) s m #[(.ref u0), (.int (0 : Int32)), (.ref u2), (.int (0 : Int32)), (.int (4 : Int32))] below meth c s₁ [] 0 0 := Stand.of_body Bd
  have e0 : s₁.heap = h0 := by rw [← hh, Bd.state]; rfl
  have N0 := Fr.nil n0
  have pre0 : ∀ t, Steps p.tables e below (s₁.setTop (mkF m 0 #[rv u0, iv (0 : Int32), rv u2, iv (0 : Int32), iv (4 : Int32), .unset, .unset] [])) t → Steps p.tables e below (s₁.setTop (entryFrame m #[(.ref u0), (.int (0 : Int32)), (.ref u2), (.int (0 : Int32)), (.int (4 : Int32))] 7)) t := fun t k => castTop (ef_rmC5_4_4 m u0 (0 : Int32) u2 (0 : Int32) (4 : Int32)) k
  obtain ⟨cl1, Ar1, qq1, S1, N1_, H1, G1⟩ := id P_V_u0
  have hin1 : ¬ ((0 : Int32) < 0 ∨ cl1.slots.size ≤ ((0 : Int32)).toNatClampNeg) := inb_of S1 ⟨by decide, by decide⟩
  have hat1 : cl1.slots[((0 : Int32)).toNatClampNeg]? = some (.int c0) := H1.at hin1 rfl
  obtain ⟨cl2, Ar2, qq2, S2, N2_, H2, G2⟩ := id P_V_u2
  have hin2 : ¬ ((0 : Int32) < 0 ∨ cl2.slots.size ≤ ((0 : Int32)).toNatClampNeg) := inb_of S2 ⟨by decide, by decide⟩
  obtain ⟨T3, h3, X3, e3, W3, st3⟩ := stB X0 hx hZ e0 Ar2 (j := (0 : Int32)) hin2 (g := (mkF m 31 #[rv u0, iv (0 : Int32), rv u2, iv (0 : Int32), iv (4 : Int32), iv (0 : Int32), iv c0] [(.int (c0.toInt8.toInt32)), (.int (0 : Int32)), (.ref u2)])) rfl rfl (hb hby d6_31)
  have V3 : Arv Z h3 u2 kB .byte (4 : Int32) [(.int ((c0.toInt8.toInt32).toInt8.toInt32)), (.int d1), (.int d2), (.int d3)] (.int (0 : Int32)) := Arv.set Ar2 qq2 S2 N2_ H2 G2 (fits_nar_byte _) W3 0 rfl (Nat.le_of_ble_eq_true rfl)
  have N4 := Fr.snoc X3 N0 g_u2
  have K5 : Keep h0 h3 [u2] := (Keep.refl h0 [u2]).wr W3 (Or.inl (List.mem_of_getElem? (i := 0) rfl))
  have f6 : Arv Z h3 u0 kA .char (4 : Int32) [(.int c0), (.int c1), (.int c2), (.int c3)] (.int (0 : Int32)) := (P_V_u0.other W3 neA)
  obtain ⟨cl7, Ar7, qq7, S7, N7_, H7, G7⟩ := id f6
  have hin7 : ¬ ((1 : Int32) < 0 ∨ cl7.slots.size ≤ ((1 : Int32)).toNatClampNeg) := inb_of S7 ⟨by decide, by decide⟩
  have hat7 : cl7.slots[((1 : Int32)).toNatClampNeg]? = some (.int c1) := H7.at hin7 rfl
  obtain ⟨cl8, Ar8, qq8, S8, N8_, H8, G8⟩ := id V3
  have hin8 : ¬ ((1 : Int32) < 0 ∨ cl8.slots.size ≤ ((1 : Int32)).toNatClampNeg) := inb_of S8 ⟨by decide, by decide⟩
  obtain ⟨T9, h9, X9, e9, W9, st9⟩ := stB X3 hx hZ e3 Ar8 (j := (1 : Int32)) hin8 (g := (mkF m 31 #[rv u0, iv (1 : Int32), rv u2, iv (1 : Int32), iv (4 : Int32), iv (1 : Int32), iv c1] [(.int (c1.toInt8.toInt32)), (.int (1 : Int32)), (.ref u2)])) rfl rfl (hb hby d6_31)
  have V9 : Arv Z h9 u2 kB .byte (4 : Int32) [(.int ((c0.toInt8.toInt32).toInt8.toInt32)), (.int ((c1.toInt8.toInt32).toInt8.toInt32)), (.int d2), (.int d3)] (.int (0 : Int32)) := Arv.set Ar8 qq8 S8 N8_ H8 G8 (fits_nar_byte _) W9 1 rfl (Nat.le_of_ble_eq_true rfl)
  have N10 := Fr.snoc X9 N4 g_u2
  have K11 : Keep h0 h9 [u2] := K5.wr W9 (Or.inl (List.mem_of_getElem? (i := 0) rfl))
  have f12 : Arv Z h9 u0 kA .char (4 : Int32) [(.int c0), (.int c1), (.int c2), (.int c3)] (.int (0 : Int32)) := (f6.other W9 neA)
  obtain ⟨cl13, Ar13, qq13, S13, N13_, H13, G13⟩ := id f12
  have hin13 : ¬ ((2 : Int32) < 0 ∨ cl13.slots.size ≤ ((2 : Int32)).toNatClampNeg) := inb_of S13 ⟨by decide, by decide⟩
  have hat13 : cl13.slots[((2 : Int32)).toNatClampNeg]? = some (.int c2) := H13.at hin13 rfl
  obtain ⟨cl14, Ar14, qq14, S14, N14_, H14, G14⟩ := id V9
  have hin14 : ¬ ((2 : Int32) < 0 ∨ cl14.slots.size ≤ ((2 : Int32)).toNatClampNeg) := inb_of S14 ⟨by decide, by decide⟩
  obtain ⟨T15, h15, X15, e15, W15, st15⟩ := stB X9 hx hZ e9 Ar14 (j := (2 : Int32)) hin14 (g := (mkF m 31 #[rv u0, iv (2 : Int32), rv u2, iv (2 : Int32), iv (4 : Int32), iv (2 : Int32), iv c2] [(.int (c2.toInt8.toInt32)), (.int (2 : Int32)), (.ref u2)])) rfl rfl (hb hby d6_31)
  have V15 : Arv Z h15 u2 kB .byte (4 : Int32) [(.int ((c0.toInt8.toInt32).toInt8.toInt32)), (.int ((c1.toInt8.toInt32).toInt8.toInt32)), (.int ((c2.toInt8.toInt32).toInt8.toInt32)), (.int d3)] (.int (0 : Int32)) := Arv.set Ar14 qq14 S14 N14_ H14 G14 (fits_nar_byte _) W15 2 rfl (Nat.le_of_ble_eq_true rfl)
  have N16 := Fr.snoc X15 N10 g_u2
  have K17 : Keep h0 h15 [u2] := K11.wr W15 (Or.inl (List.mem_of_getElem? (i := 0) rfl))
  have f18 : Arv Z h15 u0 kA .char (4 : Int32) [(.int c0), (.int c1), (.int c2), (.int c3)] (.int (0 : Int32)) := (f12.other W15 neA)
  obtain ⟨cl19, Ar19, qq19, S19, N19_, H19, G19⟩ := id f18
  have hin19 : ¬ ((3 : Int32) < 0 ∨ cl19.slots.size ≤ ((3 : Int32)).toNatClampNeg) := inb_of S19 ⟨by decide, by decide⟩
  have hat19 : cl19.slots[((3 : Int32)).toNatClampNeg]? = some (.int c3) := H19.at hin19 rfl
  obtain ⟨cl20, Ar20, qq20, S20, N20_, H20, G20⟩ := id V15
  have hin20 : ¬ ((3 : Int32) < 0 ∨ cl20.slots.size ≤ ((3 : Int32)).toNatClampNeg) := inb_of S20 ⟨by decide, by decide⟩
  obtain ⟨T21, h21, X21, e21, W21, st21⟩ := stB X15 hx hZ e15 Ar20 (j := (3 : Int32)) hin20 (g := (mkF m 31 #[rv u0, iv (3 : Int32), rv u2, iv (3 : Int32), iv (4 : Int32), iv (3 : Int32), iv c3] [(.int (c3.toInt8.toInt32)), (.int (3 : Int32)), (.ref u2)])) rfl rfl (hb hby d6_31)
  have V21 : Arv Z h21 u2 kB .byte (4 : Int32) [(.int ((c0.toInt8.toInt32).toInt8.toInt32)), (.int ((c1.toInt8.toInt32).toInt8.toInt32)), (.int ((c2.toInt8.toInt32).toInt8.toInt32)), (.int ((c3.toInt8.toInt32).toInt8.toInt32))] (.int (0 : Int32)) := Arv.set Ar20 qq20 S20 N20_ H20 G20 (fits_nar_byte _) W21 3 rfl (Nat.le_of_ble_eq_true rfl)
  have N22 := Fr.snoc X21 N16 g_u2
  have K23 : Keep h0 h21 [u2] := K17.wr W21 (Or.inl (List.mem_of_getElem? (i := 0) rfl))
  obtain ⟨fs, hr, hrun, hended, hW, hsame⟩ := X21.leave (v := some (.int (4 : Int32))) (fun h => by rw [Bd.returns] at h; cases h)
  refine ⟨_, _, pre0 _ ?_, hrun, hended, _, _, rfl, ?_, ⟨_, rfl⟩, hW, hsame.mono (by decide) (by decide)⟩
  · refine XS.iconst X0.here hx rfl (hb hby d6_0) ?_
    refine XS.istore X0.here hx rfl (hb hby d6_1) rfl (l' := #[rv u0, iv (0 : Int32), rv u2, iv (0 : Int32), iv (4 : Int32), iv (0 : Int32), .unset]) rfl ?_
    refine XS.iload X0.here hx rfl (hb hby d6_3) rfl ?_
    refine XS.iload X0.here hx rfl (hb hby d6_5) rfl ?_
    refine XS.icmpNo X0.here hx rfl (hb hby d6_7) rfl (tlt (by decide : (0 : Int32) < (4 : Int32))).2.1 ?_
    refine XS.aloadN X0.here hx rfl (hb hby d6_10) rfl rfl ?_
    refine XS.iloadN X0.here hx rfl (hb hby d6_11) rfl ?_
    refine X0.caload hx (j := (0 : Int32)) (v := (.int c0)) (by rw [e0]; exact Ar1.1) (State.isArrayOf_alike hZ.alike Ar1.2.1) Ar1.2.2 hin1 hat1 (g := (mkF m 12 #[rv u0, iv (0 : Int32), rv u2, iv (0 : Int32), iv (4 : Int32), iv (0 : Int32), .unset] [(.int (0 : Int32)), (.ref u0)])) rfl rfl (hb hby d6_12) _ ?_
    refine XS.istore X0.here hx rfl (hb hby d6_13) rfl (l' := #[rv u0, iv (0 : Int32), rv u2, iv (0 : Int32), iv (4 : Int32), iv (0 : Int32), iv c0]) rfl ?_
    refine XS.iload X0.here hx rfl (hb hby d6_15) rfl ?_
    refine XS.sipush X0.here hx rfl (hb hby d6_17) ?_
    refine XS.icmpYes X0.here hx rfl (pc0 := 20) (pc' := 26) rfl (hb hby d6_20) rfl (flt hp0).2.2.2 (by decide) (by decide) ?_
    refine XS.aloadN X0.here hx rfl (hb hby d6_26) rfl rfl ?_
    refine XS.iloadN X0.here hx rfl (hb hby d6_27) rfl ?_
    refine XS.iload X0.here hx rfl (hb hby d6_28) rfl ?_
    refine XS.i2b X0.here hx rfl (hb hby d6_30) rfl ?_
    refine st3 _ ?_
    refine XS.iinc X3.here hx rfl (hb hby d6_32) rfl (l' := #[rv u0, iv (1 : Int32), rv u2, iv (0 : Int32), iv (4 : Int32), iv (0 : Int32), iv c0]) rfl ?_
    refine XS.iinc X3.here hx rfl (hb hby d6_35) rfl (l' := #[rv u0, iv (1 : Int32), rv u2, iv (1 : Int32), iv (4 : Int32), iv (0 : Int32), iv c0]) rfl ?_
    refine XS.iinc X3.here hx rfl (hb hby d6_38) rfl (l' := #[rv u0, iv (1 : Int32), rv u2, iv (1 : Int32), iv (4 : Int32), iv (1 : Int32), iv c0]) rfl ?_
    refine XS.goto X3.here hx rfl (pc0 := 41) (pc' := 3) rfl (hb hby d6_41) (by decide) (by decide) ?_
    refine XS.iload X3.here hx rfl (hb hby d6_3) rfl ?_
    refine XS.iload X3.here hx rfl (hb hby d6_5) rfl ?_
    show Steps _ _ _ (T3.setTop (mkF m 7 #[rv u0, iv (1 : Int32), rv u2, iv (1 : Int32), iv (4 : Int32), iv (1 : Int32), iv c0] [(.int (4 : Int32)), (.int (1 : Int32))])) _
    refine XS.icmpNo X3.here hx rfl (hb hby d6_7) rfl (tlt (by decide : (1 : Int32) < (4 : Int32))).2.1 ?_
    refine XS.aloadN X3.here hx rfl (hb hby d6_10) rfl rfl ?_
    refine XS.iloadN X3.here hx rfl (hb hby d6_11) rfl ?_
    refine X3.caload hx (j := (1 : Int32)) (v := (.int c1)) (by rw [e3]; exact Ar7.1) (State.isArrayOf_alike hZ.alike Ar7.2.1) Ar7.2.2 hin7 hat7 (g := (mkF m 12 #[rv u0, iv (1 : Int32), rv u2, iv (1 : Int32), iv (4 : Int32), iv (1 : Int32), iv c0] [(.int (1 : Int32)), (.ref u0)])) rfl rfl (hb hby d6_12) _ ?_
    refine XS.istore X3.here hx rfl (hb hby d6_13) rfl (l' := #[rv u0, iv (1 : Int32), rv u2, iv (1 : Int32), iv (4 : Int32), iv (1 : Int32), iv c1]) rfl ?_
    refine XS.iload X3.here hx rfl (hb hby d6_15) rfl ?_
    refine XS.sipush X3.here hx rfl (hb hby d6_17) ?_
    refine XS.icmpYes X3.here hx rfl (pc0 := 20) (pc' := 26) rfl (hb hby d6_20) rfl (flt hp1).2.2.2 (by decide) (by decide) ?_
    refine XS.aloadN X3.here hx rfl (hb hby d6_26) rfl rfl ?_
    refine XS.iloadN X3.here hx rfl (hb hby d6_27) rfl ?_
    refine XS.iload X3.here hx rfl (hb hby d6_28) rfl ?_
    refine XS.i2b X3.here hx rfl (hb hby d6_30) rfl ?_
    refine st9 _ ?_
    refine XS.iinc X9.here hx rfl (hb hby d6_32) rfl (l' := #[rv u0, iv (2 : Int32), rv u2, iv (1 : Int32), iv (4 : Int32), iv (1 : Int32), iv c1]) rfl ?_
    refine XS.iinc X9.here hx rfl (hb hby d6_35) rfl (l' := #[rv u0, iv (2 : Int32), rv u2, iv (2 : Int32), iv (4 : Int32), iv (1 : Int32), iv c1]) rfl ?_
    refine XS.iinc X9.here hx rfl (hb hby d6_38) rfl (l' := #[rv u0, iv (2 : Int32), rv u2, iv (2 : Int32), iv (4 : Int32), iv (2 : Int32), iv c1]) rfl ?_
    refine XS.goto X9.here hx rfl (pc0 := 41) (pc' := 3) rfl (hb hby d6_41) (by decide) (by decide) ?_
    refine XS.iload X9.here hx rfl (hb hby d6_3) rfl ?_
    refine XS.iload X9.here hx rfl (hb hby d6_5) rfl ?_
    refine XS.icmpNo X9.here hx rfl (hb hby d6_7) rfl (tlt (by decide : (2 : Int32) < (4 : Int32))).2.1 ?_
    refine XS.aloadN X9.here hx rfl (hb hby d6_10) rfl rfl ?_
    refine XS.iloadN X9.here hx rfl (hb hby d6_11) rfl ?_
    refine X9.caload hx (j := (2 : Int32)) (v := (.int c2)) (by rw [e9]; exact Ar13.1) (State.isArrayOf_alike hZ.alike Ar13.2.1) Ar13.2.2 hin13 hat13 (g := (mkF m 12 #[rv u0, iv (2 : Int32), rv u2, iv (2 : Int32), iv (4 : Int32), iv (2 : Int32), iv c1] [(.int (2 : Int32)), (.ref u0)])) rfl rfl (hb hby d6_12) _ ?_
    refine XS.istore X9.here hx rfl (hb hby d6_13) rfl (l' := #[rv u0, iv (2 : Int32), rv u2, iv (2 : Int32), iv (4 : Int32), iv (2 : Int32), iv c2]) rfl ?_
    show Steps _ _ _ (T9.setTop (mkF m 15 #[rv u0, iv (2 : Int32), rv u2, iv (2 : Int32), iv (4 : Int32), iv (2 : Int32), iv c2] [])) _
    refine XS.iload X9.here hx rfl (hb hby d6_15) rfl ?_
    refine XS.sipush X9.here hx rfl (hb hby d6_17) ?_
    refine XS.icmpYes X9.here hx rfl (pc0 := 20) (pc' := 26) rfl (hb hby d6_20) rfl (flt hp2).2.2.2 (by decide) (by decide) ?_
    refine XS.aloadN X9.here hx rfl (hb hby d6_26) rfl rfl ?_
    refine XS.iloadN X9.here hx rfl (hb hby d6_27) rfl ?_
    refine XS.iload X9.here hx rfl (hb hby d6_28) rfl ?_
    refine XS.i2b X9.here hx rfl (hb hby d6_30) rfl ?_
    refine st15 _ ?_
    refine XS.iinc X15.here hx rfl (hb hby d6_32) rfl (l' := #[rv u0, iv (3 : Int32), rv u2, iv (2 : Int32), iv (4 : Int32), iv (2 : Int32), iv c2]) rfl ?_
    refine XS.iinc X15.here hx rfl (hb hby d6_35) rfl (l' := #[rv u0, iv (3 : Int32), rv u2, iv (3 : Int32), iv (4 : Int32), iv (2 : Int32), iv c2]) rfl ?_
    refine XS.iinc X15.here hx rfl (hb hby d6_38) rfl (l' := #[rv u0, iv (3 : Int32), rv u2, iv (3 : Int32), iv (4 : Int32), iv (3 : Int32), iv c2]) rfl ?_
    refine XS.goto X15.here hx rfl (pc0 := 41) (pc' := 3) rfl (hb hby d6_41) (by decide) (by decide) ?_
    refine XS.iload X15.here hx rfl (hb hby d6_3) rfl ?_
    refine XS.iload X15.here hx rfl (hb hby d6_5) rfl ?_
    refine XS.icmpNo X15.here hx rfl (hb hby d6_7) rfl (tlt (by decide : (3 : Int32) < (4 : Int32))).2.1 ?_
    refine XS.aloadN X15.here hx rfl (hb hby d6_10) rfl rfl ?_
    refine XS.iloadN X15.here hx rfl (hb hby d6_11) rfl ?_
    refine X15.caload hx (j := (3 : Int32)) (v := (.int c3)) (by rw [e15]; exact Ar19.1) (State.isArrayOf_alike hZ.alike Ar19.2.1) Ar19.2.2 hin19 hat19 (g := (mkF m 12 #[rv u0, iv (3 : Int32), rv u2, iv (3 : Int32), iv (4 : Int32), iv (3 : Int32), iv c2] [(.int (3 : Int32)), (.ref u0)])) rfl rfl (hb hby d6_12) _ ?_
    refine XS.istore X15.here hx rfl (hb hby d6_13) rfl (l' := #[rv u0, iv (3 : Int32), rv u2, iv (3 : Int32), iv (4 : Int32), iv (3 : Int32), iv c3]) rfl ?_
    refine XS.iload X15.here hx rfl (hb hby d6_15) rfl ?_
    refine XS.sipush X15.here hx rfl (hb hby d6_17) ?_
    refine XS.icmpYes X15.here hx rfl (pc0 := 20) (pc' := 26) rfl (hb hby d6_20) rfl (flt hp3).2.2.2 (by decide) (by decide) ?_
    refine XS.aloadN X15.here hx rfl (hb hby d6_26) rfl rfl ?_
    refine XS.iloadN X15.here hx rfl (hb hby d6_27) rfl ?_
    show Steps _ _ _ (T15.setTop (mkF m 28 #[rv u0, iv (3 : Int32), rv u2, iv (3 : Int32), iv (4 : Int32), iv (3 : Int32), iv c3] [(.int (3 : Int32)), (.ref u2)])) _
    refine XS.iload X15.here hx rfl (hb hby d6_28) rfl ?_
    refine XS.i2b X15.here hx rfl (hb hby d6_30) rfl ?_
    refine st21 _ ?_
    refine XS.iinc X21.here hx rfl (hb hby d6_32) rfl (l' := #[rv u0, iv (4 : Int32), rv u2, iv (3 : Int32), iv (4 : Int32), iv (3 : Int32), iv c3]) rfl ?_
    refine XS.iinc X21.here hx rfl (hb hby d6_35) rfl (l' := #[rv u0, iv (4 : Int32), rv u2, iv (4 : Int32), iv (4 : Int32), iv (3 : Int32), iv c3]) rfl ?_
    refine XS.iinc X21.here hx rfl (hb hby d6_38) rfl (l' := #[rv u0, iv (4 : Int32), rv u2, iv (4 : Int32), iv (4 : Int32), iv (4 : Int32), iv c3]) rfl ?_
    refine XS.goto X21.here hx rfl (pc0 := 41) (pc' := 3) rfl (hb hby d6_41) (by decide) (by decide) ?_
    refine XS.iload X21.here hx rfl (hb hby d6_3) rfl ?_
    refine XS.iload X21.here hx rfl (hb hby d6_5) rfl ?_
    refine XS.icmpYes X21.here hx rfl (pc0 := 7) (pc' := 44) rfl (hb hby d6_7) rfl (flt (by decide : ¬ ((4 : Int32) < (4 : Int32)))).2.1 (by decide) (by decide) ?_
    refine XS.iload X21.here hx rfl (hb hby d6_44) rfl ?_
    show Steps _ _ _ (T21.setTop (mkF m 46 #[rv u0, iv (4 : Int32), rv u2, iv (4 : Int32), iv (4 : Int32), iv (4 : Int32), iv c3] [(.int (4 : Int32))])) _
    exact retI X21 hx Bd.returns (hb hby d6_46) hr
  · show Q_rmC5_4_4 Z u0 u2 kA c0 c1 c2 c3 kB d0 d1 d2 d3 h0 n0 _ T21.heap _
    rw [e21]
    exact ⟨rfl, N22, K23, V21⟩

theorem ef_rmC3_4 (m : MethodId) (x0 : Addr) (x1 : Int32) (x2 : Int32) : entryFrame m #[(.ref x0), (.int x1), (.int x2)] 6 = mkF m 0 #[rv x0, iv x1, iv x2, .unset, .unset, .unset] [] := by first | (simp [entryFrame, mkF, argsToLocals, Value.category]; done) | rfl
def Q_rmC3_4 (Z : State) (u0 : Addr) (kA : ClassId) (c0 : Int32) (c1 : Int32) (c2 : Int32) (c3 : Int32) (h0 : Heap) (n0 : Nat) (v : Option Value) (h : Heap) (L : List Loc) : Prop := ∃ (t : Addr), ∃ (kt : ClassId), ∃ (z : Int32), ∃ (vs : List Value), (v = (some (.ref t)) ∧ Fr n0 L ∧ Keep h0 h [] ∧ h0.size ≤ t ∧ Arv Z h t kt .byte z vs (.int 0) ∧ (z = (4 : Int32) ∨ z = (8 : Int32)))
set_option maxRecDepth 65536 in
set_option maxHeartbeats 40000000 in
theorem rmC3_4 (l : Launch) (Z : State) (a0 : Array Value) (hw : ∀ d ∈ tables_1, d.before a0 Z = true) (ws : List Jvm.Cond) (u0 : Addr) (kA : ClassId) (c0 : Int32) (c1 : Int32) (c2 : Int32) (c3 : Int32) (h0 : Heap) (n0 : Nat) (Z0 : n0 ≤ h0.size) (P_S_StringUTF16__assertionsDisabled : Sta Z h0 "java/lang/StringUTF16" "$assertionsDisabled" "Z" (.int (1 : Int32))) (P_S_StringUTF16_HI_BYTE_SHIFT : Sta Z h0 "java/lang/StringUTF16" "HI_BYTE_SHIFT" "I" (.int (0 : Int32))) (P_S_StringUTF16_LO_BYTE_SHIFT : Sta Z h0 "java/lang/StringUTF16" "LO_BYTE_SHIFT" "I" (.int (8 : Int32))) (P_V_u0 : Arv Z h0 u0 kA .char (4 : Int32) [(.int c0), (.int c1), (.int c2), (.int c3)] (.int (0 : Int32))) (hr0 : ¬ c0 < 0 ∧ ¬ (65535 : Int32) < c0) (hr1 : ¬ c1 < 0 ∧ ¬ (65535 : Int32) < c1) (hr2 : ¬ c2 < 0 ∧ ¬ (65535 : Int32) < c2) (hr3 : ¬ c3 < 0 ∧ ¬ (65535 : Int32) < c3) :
    MetFree l own_y6 (head1 (Jvm.Cond.code own_y6 jdk_52_method_16_code 6 (some (.array .byte)) :: ws) ({ frames := 3, cells := 2, slots := 12, locals := 40 } : Room)) (fun a U => a = #[(.ref u0), (.int (0 : Int32)), (.int (4 : Int32))] ∧ Z.Warmed39 U.vm ∧ U.heap = h0) (fun _ _ _ _ _ => True) (fun _ U o U' => ∃ v L, o = .returned v ∧ Q_rmC3_4 Z u0 kA c0 c1 c2 c3 h0 n0 v U'.heap L ∧ FrameEnd U o U' L ({ frames := 3, cells := 2, slots := 12, locals := 40 } : Room).cells ({ frames := 3, cells := 2, slots := 12, locals := 40 } : Room).slots) := by
  refine MetFree.of_bodySF (plainFor_of_name pn_5) hisR ?_
  intro p e s m args below meth c s₁ Bd hml0 hP hK
  obtain ⟨rfl, hZ, hh⟩ := hP
  have hx := Bd.exec
  have hby := Bd.bytes
  have hml : c.maxLocals = 6 := hml0
  have hown : s.vm.findClass "java/lang/StringUTF16" = some m.cls := findClass_of_methodNamed Bd.named
  have hnm := (name_of_methodNamed Bd.named Bd.method).1
  have X0 : Stand p l e ({ frames := 3, cells := 2, slots := 12, locals := 40 } : Room) s m #[(.ref u0), (.int (0 : Int32)), (.int (4 : Int32))] below meth c s₁ [] 0 0 := Stand.of_body Bd
  have e0 : s₁.heap = h0 := by rw [← hh, Bd.state]; rfl
  have N0 := Fr.nil n0
  have pre0 : ∀ t, Steps p.tables e below (s₁.setTop (mkF m 0 #[rv u0, iv (0 : Int32), iv (4 : Int32), .unset, .unset, .unset] [])) t → Steps p.tables e below (s₁.setTop (entryFrame m #[(.ref u0), (.int (0 : Int32)), (.int (4 : Int32))] 6)) t := fun t k => castTop (ef_rmC3_4 m u0 (0 : Int32) (4 : Int32)) k
  obtain ⟨T1, h1, k1, X1, e1, E1, A1, st1⟩ := newP X0 hx hZ (own_g hw 25 rfl) e0 (g := (mkF m 1 #[rv u0, iv (0 : Int32), iv (4 : Int32), .unset, .unset, .unset] [(.int (4 : Int32))])) rfl (hb hby d5_1) rfl (by decide) (cap := 4) (by decide) (by decide) (by decide) (by decide)
  obtain ⟨b1, g1⟩ : ∃ z, z = h0.size := ⟨_, rfl⟩
  rw [← g1] at A1 st1
  have ne2 : u0 ≠ b1 := Nat.ne_of_lt (Nat.lt_of_lt_of_le P_V_u0.lt (Nat.le_of_eq g1.symm))
  have o1 : n0 ≤ b1 := Nat.le_trans Z0 (Nat.le_of_eq g1.symm)
  have z1 : h0.size ≤ b1 := Nat.le_trans (Keep.refl h0 []).1 (Nat.le_of_eq g1.symm)
  have K1 : Keep h0 h1 [] := (Keep.refl h0 []).ext E1
  have V1 : Arv Z h1 b1 k1 .byte (4 : Int32) [(.int (0 : Int32)), (.int (0 : Int32)), (.int (0 : Int32)), (.int (0 : Int32))] (.int (0 : Int32)) := (Arv.new A1 (by decide)).pad (pad_rep [] (.int (0 : Int32)) 4)
  have pre4 : ∀ t, Steps p.tables e below (T1.setTop (mkF m 9 #[rv u0, iv (0 : Int32), iv (4 : Int32), rv b1, .unset, .unset] [(.int (4 : Int32)), (.int (0 : Int32)), (.ref b1), (.int (0 : Int32)), (.ref u0)])) t → Steps p.tables e below (s₁.setTop (entryFrame m #[(.ref u0), (.int (0 : Int32)), (.int (4 : Int32))] 6)) t := fun t kt => pre0 t (by
   refine XS.iloadN X0.here hx rfl (hb hby d5_0) rfl ?_
   refine st1 _ ?_
   refine XS.astoreN X1.here hx rfl (hb hby d5_3) rfl rfl (l' := #[rv u0, iv (0 : Int32), iv (4 : Int32), rv b1, .unset, .unset]) rfl ?_
   refine XS.aloadN X1.here hx rfl (hb hby d5_4) rfl rfl ?_
   refine XS.iloadN X1.here hx rfl (hb hby d5_5) rfl ?_
   refine XS.aloadN X1.here hx rfl (hb hby d5_6) rfl rfl ?_
   refine XS.iconst X1.here hx rfl (hb hby d5_7) ?_
   refine XS.iloadN X1.here hx rfl (hb hby d5_8) rfl ?_
   exact kt)
  by_cases hc9_3 : (255 : Int32) < c0
  · have f5 : Arv Z h1 u0 kA .char (4 : Int32) [(.int c0), (.int c1), (.int c2), (.int c3)] (.int (0 : Int32)) := (P_V_u0.ext E1)
    have f6 : n0 ≤ h1.size := (Nat.le_trans Z0 E1.1)
    obtain ⟨_, _, ⟨T7, L7, k7, n7⟩, -, X7, ⟨Lc7, hQ7, l7, y7, z7⟩, st7⟩ := Jvm.LawKit.callS X1 hx (y := own_y5) hown (mvT hZ (own_g hw 26 rfl)) (mvT hZ (own_g hw 27 rfl)) (mvT hZ (own_g hw 23 rfl)) (mvT hZ (own_g hw 28 rfl)) (by decide) (backOf (W := 0) (rmC5_4_0 l Z a0 hw [] u0 b1 kA c0 c1 c2 c3 k1 (0 : Int32) (0 : Int32) (0 : Int32) (0 : Int32) h1 n0 f6 f5 V1 ne2 hc9_3 o1) hZ (own_g hw 28 rfl) (own_g hw 23 rfl) (by decide) (by decide)) (g := (mkF m 9 #[rv u0, iv (0 : Int32), iv (4 : Int32), rv b1, .unset, .unset] [(.int (4 : Int32)), (.int (0 : Int32)), (.ref b1), (.int (0 : Int32)), (.ref u0)])) rfl (by rw [hml]; rfl) (argsL := [(.ref u0), (.int (0 : Int32)), (.ref b1), (.int (0 : Int32)), (.int (4 : Int32))]) (rest := []) (lenOf pd___CI_BII_I rfl) rfl (by show 2 * 0 + _ ≤ _; exact Nat.le_of_eq rfl) (hb hby d5_9) (fun _ _ => ⟨rfl, e1, (by decide : 1 + 0 ≤ _), (by decide : 4 + 0 ≤ _)⟩)
    dsimp only [Pt.U, Pt.locs, Pt.cells, Pt.slots] at X7 l7 y7 z7 st7 hQ7
    subst l7 y7 z7
    obtain ⟨rfl, N7q, K7, f8⟩ := hQ7
    have KK7 : Keep h0 T7.heap [] := Keep.trans K1 K7 (allS (Or.inr z1) all0)
    have N7 := Fr.app N0 N7q
    have f9 : Sta Z T7.heap "java/lang/StringUTF16" "$assertionsDisabled" "Z" (.int (1 : Int32)) := (own_staKeep (P_S_StringUTF16__assertionsDisabled.ext E1) K7 (nsS V1.nostat ns0))
    have f10 : Sta Z T7.heap "java/lang/StringUTF16" "HI_BYTE_SHIFT" "I" (.int (0 : Int32)) := (own_staKeep (P_S_StringUTF16_HI_BYTE_SHIFT.ext E1) K7 (nsS V1.nostat ns0))
    have f11 : Sta Z T7.heap "java/lang/StringUTF16" "LO_BYTE_SHIFT" "I" (.int (8 : Int32)) := (own_staKeep (P_S_StringUTF16_LO_BYTE_SHIFT.ext E1) K7 (nsS V1.nostat ns0))
    have f12 : Arv Z T7.heap u0 kA .char (4 : Int32) [(.int c0), (.int c1), (.int c2), (.int c3)] (.int (0 : Int32)) := (f5.keep K7 (ninS ne2 nin0))
    have f13 : n0 ≤ T7.heap.size := (Nat.le_trans f6 K7.1)
    obtain ⟨_, _, ⟨T14, L14, k14, n14⟩, -, X14, ⟨Lc14, hQ14, l14, y14, z14⟩, st14⟩ := Jvm.LawKit.callS X7 hx (y := own_y4) hown (mvT hZ (own_g hw 29 rfl)) (mvT hZ (own_g hw 30 rfl)) (mvT hZ (own_g hw 23 rfl)) (mvT hZ (own_g hw 31 rfl)) (by decide) (backOf (W := 0) (rmTB4 l Z a0 hw [] u0 kA c0 c1 c2 c3 T7.heap n0 f13 f9 f10 f11 f12) hZ (own_g hw 31 rfl) (own_g hw 23 rfl) (by decide) (by decide)) (g := (mkF m 23 #[rv u0, iv (0 : Int32), iv (4 : Int32), rv b1, iv (0 : Int32), .unset] [(.int (4 : Int32)), (.int (0 : Int32)), (.ref u0)])) rfl (by rw [hml]; rfl) (argsL := [(.ref u0), (.int (0 : Int32)), (.int (4 : Int32))]) (rest := []) (lenOf pd___CII__B rfl) rfl (by show 2 * 0 + _ ≤ _; exact Nat.le_of_eq rfl) (hb hby d5_23) (fun _ _ => ⟨rfl, rfl, (by decide : 1 + 1 ≤ _), (by decide : 4 + 8 ≤ _)⟩)
    dsimp only [Pt.U, Pt.locs, Pt.cells, Pt.slots] at X14 l14 y14 z14 st14 hQ14
    subst l14 y14 z14
    obtain ⟨t_14, kt_14, rfl, N14q, K14, sx14_0, f15⟩ := hQ14
    have ot_14 : n0 ≤ t_14 := Nat.le_trans f13 sx14_0
    have zt_14 : h0.size ≤ t_14 := Nat.le_trans KK7.1 sx14_0
    have ne16 : u0 ≠ t_14 := Nat.ne_of_lt (Nat.lt_of_lt_of_le f12.lt sx14_0)
    have ne17 : b1 ≠ t_14 := Nat.ne_of_lt (Nat.lt_of_lt_of_le f8.lt sx14_0)
    have KK14 : Keep h0 T14.heap [] := Keep.trans KK7 K14 all0
    have N14 := Fr.app N7 N14q
    have f18 : Sta Z T14.heap "java/lang/StringUTF16" "$assertionsDisabled" "Z" (.int (1 : Int32)) := (own_staKeep f9 K14 ns0)
    have f19 : Sta Z T14.heap "java/lang/StringUTF16" "HI_BYTE_SHIFT" "I" (.int (0 : Int32)) := (own_staKeep f10 K14 ns0)
    have f20 : Sta Z T14.heap "java/lang/StringUTF16" "LO_BYTE_SHIFT" "I" (.int (8 : Int32)) := (own_staKeep f11 K14 ns0)
    have f21 : n0 ≤ T14.heap.size := (Nat.le_trans f13 K14.1)
    obtain ⟨_, _, ⟨T22, L22, k22, n22⟩, -, X22, ⟨Lc22, hQ22, l22, y22, z22⟩, st22⟩ := Jvm.LawKit.callS X14 hx (y := own_y3) hown (mvT hZ (own_g hw 45 rfl)) (mvT hZ (own_g hw 46 rfl)) (mvT hZ (own_g hw 23 rfl)) (mvT hZ (own_g hw 47 rfl)) (by decide) (backOf (W := 0) (rmGC4_0 l Z a0 hw [] t_14 kt_14 (((c0 >>> ((0 : Int32) &&& 31)).toInt8.toInt32).toInt8.toInt32) (((c0 >>> ((8 : Int32) &&& 31)).toInt8.toInt32).toInt8.toInt32) (((c1 >>> ((0 : Int32) &&& 31)).toInt8.toInt32).toInt8.toInt32) (((c1 >>> ((8 : Int32) &&& 31)).toInt8.toInt32).toInt8.toInt32) (((c2 >>> ((0 : Int32) &&& 31)).toInt8.toInt32).toInt8.toInt32) (((c2 >>> ((8 : Int32) &&& 31)).toInt8.toInt32).toInt8.toInt32) (((c3 >>> ((0 : Int32) &&& 31)).toInt8.toInt32).toInt8.toInt32) (((c3 >>> ((8 : Int32) &&& 31)).toInt8.toInt32).toInt8.toInt32) T14.heap n0 f21 f18 f19 f20 f15) hZ (own_g hw 47 rfl) (own_g hw 23 rfl) (by decide) (by decide)) (g := (mkF m 32 #[rv u0, iv (0 : Int32), iv (4 : Int32), rv b1, iv (0 : Int32), rv t_14] [(.int (0 : Int32)), (.ref t_14)])) rfl (by rw [hml]; rfl) (argsL := [(.ref t_14), (.int (0 : Int32))]) (rest := []) (lenOf pd___BI_C rfl) rfl (by show 2 * 0 + _ ≤ _; exact Nat.le_of_eq rfl) (hb hby d5_32) (fun _ _ => ⟨rfl, rfl, (by decide : 2 + 0 ≤ _), (by decide : 12 + 0 ≤ _)⟩)
    dsimp only [Pt.U, Pt.locs, Pt.cells, Pt.slots] at X22 l22 y22 z22 st22 hQ22
    subst l22 y22 z22
    obtain ⟨rfl, N22q, e22⟩ := hQ22
    have N22 := Fr.app N14 N22q
    obtain ⟨fs, hr, hrun, hended, hW, hsame⟩ := X22.leave (v := some (.ref t_14)) (fun h => by rw [Bd.returns] at h; cases h)
    refine ⟨_, _, pre4 _ ?_, hrun, hended, _, _, rfl, ?_, ⟨_, rfl⟩, hW, hsame.mono (by decide) (by decide)⟩
    · show Steps _ _ _ (T1.setTop (mkF m 9 #[rv u0, iv (0 : Int32), iv (4 : Int32), rv b1, .unset, .unset] [(.int (4 : Int32)), (.int (0 : Int32)), (.ref b1), (.int (0 : Int32)), (.ref u0)])) _
      refine st7 _ ?_
      refine XS.istore X7.here hx rfl (hb hby d5_12) rfl (l' := #[rv u0, iv (0 : Int32), iv (4 : Int32), rv b1, iv (0 : Int32), .unset]) rfl ?_
      refine XS.iload X7.here hx rfl (hb hby d5_14) rfl ?_
      refine XS.iloadN X7.here hx rfl (hb hby d5_16) rfl ?_
      refine XS.icmpNo X7.here hx rfl (hb hby d5_17) rfl (feq (by decide : ¬ ((0 : Int32) = (4 : Int32)))).1 ?_
      refine XS.aloadN X7.here hx rfl (hb hby d5_20) rfl rfl ?_
      refine XS.iloadN X7.here hx rfl (hb hby d5_21) rfl ?_
      refine XS.iloadN X7.here hx rfl (hb hby d5_22) rfl ?_
      show Steps _ _ _ (T7.setTop (mkF m 23 #[rv u0, iv (0 : Int32), iv (4 : Int32), rv b1, iv (0 : Int32), .unset] [(.int (4 : Int32)), (.int (0 : Int32)), (.ref u0)])) _
      refine st14 _ ?_
      refine XS.astore X14.here hx rfl (hb hby d5_26) rfl rfl (l' := #[rv u0, iv (0 : Int32), iv (4 : Int32), rv b1, iv (0 : Int32), rv t_14]) rfl ?_
      refine XS.aload X14.here hx rfl (hb hby d5_28) rfl rfl ?_
      refine XS.iload X14.here hx rfl (hb hby d5_30) rfl ?_
      show Steps _ _ _ (T14.setTop (mkF m 32 #[rv u0, iv (0 : Int32), iv (4 : Int32), rv b1, iv (0 : Int32), rv t_14] [(.int (0 : Int32)), (.ref t_14)])) _
      refine st22 _ ?_
      refine XS.sipush X22.here hx rfl (hb hby d5_35) ?_
      refine XS.icmpYes X22.here hx rfl (pc0 := 38) (pc' := 54) rfl (hb hby d5_38) rfl (tlt (own_gp hr0 hc9_3)).2.2.1 (by decide) (by decide) ?_
      refine XS.aload X22.here hx rfl (hb hby d5_54) rfl rfl ?_
      show Steps _ _ _ (T22.setTop (mkF m 56 #[rv u0, iv (0 : Int32), iv (4 : Int32), rv b1, iv (0 : Int32), rv t_14] [(.ref t_14)])) _
      exact retOut X22 hx Bd.returns rfl (Or.inr (Or.inr (Or.inr (Or.inr ⟨rfl, rfl, rfl⟩)))) (hb hby d5_56) hr
    · show Q_rmC3_4 Z u0 kA c0 c1 c2 c3 h0 n0 _ T22.heap _
      rw [e22]
      exact ⟨t_14, kt_14, (8 : Int32), [(.int (((c0 >>> ((0 : Int32) &&& 31)).toInt8.toInt32).toInt8.toInt32)), (.int (((c0 >>> ((8 : Int32) &&& 31)).toInt8.toInt32).toInt8.toInt32)), (.int (((c1 >>> ((0 : Int32) &&& 31)).toInt8.toInt32).toInt8.toInt32)), (.int (((c1 >>> ((8 : Int32) &&& 31)).toInt8.toInt32).toInt8.toInt32)), (.int (((c2 >>> ((0 : Int32) &&& 31)).toInt8.toInt32).toInt8.toInt32)), (.int (((c2 >>> ((8 : Int32) &&& 31)).toInt8.toInt32).toInt8.toInt32)), (.int (((c3 >>> ((0 : Int32) &&& 31)).toInt8.toInt32).toInt8.toInt32)), (.int (((c3 >>> ((8 : Int32) &&& 31)).toInt8.toInt32).toInt8.toInt32))], rfl, N22, KK14, zt_14, f15, (Or.inr rfl)⟩
  · by_cases hc9_23 : (255 : Int32) < c1
    · have f24 : Arv Z h1 u0 kA .char (4 : Int32) [(.int c0), (.int c1), (.int c2), (.int c3)] (.int (0 : Int32)) := (P_V_u0.ext E1)
      have f25 : n0 ≤ h1.size := (Nat.le_trans Z0 E1.1)
      obtain ⟨_, _, ⟨T26, L26, k26, n26⟩, -, X26, ⟨Lc26, hQ26, l26, y26, z26⟩, st26⟩ := Jvm.LawKit.callS X1 hx (y := own_y5) hown (mvT hZ (own_g hw 26 rfl)) (mvT hZ (own_g hw 27 rfl)) (mvT hZ (own_g hw 23 rfl)) (mvT hZ (own_g hw 28 rfl)) (by decide) (backOf (W := 0) (rmC5_4_1 l Z a0 hw [] u0 b1 kA c0 c1 c2 c3 k1 (0 : Int32) (0 : Int32) (0 : Int32) (0 : Int32) h1 n0 f25 f24 V1 ne2 hc9_3 hc9_23 o1) hZ (own_g hw 28 rfl) (own_g hw 23 rfl) (by decide) (by decide)) (g := (mkF m 9 #[rv u0, iv (0 : Int32), iv (4 : Int32), rv b1, .unset, .unset] [(.int (4 : Int32)), (.int (0 : Int32)), (.ref b1), (.int (0 : Int32)), (.ref u0)])) rfl (by rw [hml]; rfl) (argsL := [(.ref u0), (.int (0 : Int32)), (.ref b1), (.int (0 : Int32)), (.int (4 : Int32))]) (rest := []) (lenOf pd___CI_BII_I rfl) rfl (by show 2 * 0 + _ ≤ _; exact Nat.le_of_eq rfl) (hb hby d5_9) (fun _ _ => ⟨rfl, e1, (by decide : 1 + 0 ≤ _), (by decide : 4 + 0 ≤ _)⟩)
      dsimp only [Pt.U, Pt.locs, Pt.cells, Pt.slots] at X26 l26 y26 z26 st26 hQ26
      subst l26 y26 z26
      obtain ⟨rfl, N26q, K26, f27⟩ := hQ26
      have KK26 : Keep h0 T26.heap [] := Keep.trans K1 K26 (allS (Or.inr z1) all0)
      have N26 := Fr.app N0 N26q
      have f28 : Sta Z T26.heap "java/lang/StringUTF16" "$assertionsDisabled" "Z" (.int (1 : Int32)) := (own_staKeep (P_S_StringUTF16__assertionsDisabled.ext E1) K26 (nsS V1.nostat ns0))
      have f29 : Sta Z T26.heap "java/lang/StringUTF16" "HI_BYTE_SHIFT" "I" (.int (0 : Int32)) := (own_staKeep (P_S_StringUTF16_HI_BYTE_SHIFT.ext E1) K26 (nsS V1.nostat ns0))
      have f30 : Sta Z T26.heap "java/lang/StringUTF16" "LO_BYTE_SHIFT" "I" (.int (8 : Int32)) := (own_staKeep (P_S_StringUTF16_LO_BYTE_SHIFT.ext E1) K26 (nsS V1.nostat ns0))
      have f31 : Arv Z T26.heap u0 kA .char (4 : Int32) [(.int c0), (.int c1), (.int c2), (.int c3)] (.int (0 : Int32)) := (f24.keep K26 (ninS ne2 nin0))
      have f32 : n0 ≤ T26.heap.size := (Nat.le_trans f25 K26.1)
      obtain ⟨_, _, ⟨T33, L33, k33, n33⟩, -, X33, ⟨Lc33, hQ33, l33, y33, z33⟩, st33⟩ := Jvm.LawKit.callS X26 hx (y := own_y4) hown (mvT hZ (own_g hw 29 rfl)) (mvT hZ (own_g hw 30 rfl)) (mvT hZ (own_g hw 23 rfl)) (mvT hZ (own_g hw 31 rfl)) (by decide) (backOf (W := 0) (rmTB4 l Z a0 hw [] u0 kA c0 c1 c2 c3 T26.heap n0 f32 f28 f29 f30 f31) hZ (own_g hw 31 rfl) (own_g hw 23 rfl) (by decide) (by decide)) (g := (mkF m 23 #[rv u0, iv (0 : Int32), iv (4 : Int32), rv b1, iv (1 : Int32), .unset] [(.int (4 : Int32)), (.int (0 : Int32)), (.ref u0)])) rfl (by rw [hml]; rfl) (argsL := [(.ref u0), (.int (0 : Int32)), (.int (4 : Int32))]) (rest := []) (lenOf pd___CII__B rfl) rfl (by show 2 * 0 + _ ≤ _; exact Nat.le_of_eq rfl) (hb hby d5_23) (fun _ _ => ⟨rfl, rfl, (by decide : 1 + 1 ≤ _), (by decide : 4 + 8 ≤ _)⟩)
      dsimp only [Pt.U, Pt.locs, Pt.cells, Pt.slots] at X33 l33 y33 z33 st33 hQ33
      subst l33 y33 z33
      obtain ⟨t_33, kt_33, rfl, N33q, K33, sx33_0, f34⟩ := hQ33
      have ot_33 : n0 ≤ t_33 := Nat.le_trans f32 sx33_0
      have zt_33 : h0.size ≤ t_33 := Nat.le_trans KK26.1 sx33_0
      have ne35 : u0 ≠ t_33 := Nat.ne_of_lt (Nat.lt_of_lt_of_le f31.lt sx33_0)
      have ne36 : b1 ≠ t_33 := Nat.ne_of_lt (Nat.lt_of_lt_of_le f27.lt sx33_0)
      have KK33 : Keep h0 T33.heap [] := Keep.trans KK26 K33 all0
      have N33 := Fr.app N26 N33q
      have f37 : Sta Z T33.heap "java/lang/StringUTF16" "$assertionsDisabled" "Z" (.int (1 : Int32)) := (own_staKeep f28 K33 ns0)
      have f38 : Sta Z T33.heap "java/lang/StringUTF16" "HI_BYTE_SHIFT" "I" (.int (0 : Int32)) := (own_staKeep f29 K33 ns0)
      have f39 : Sta Z T33.heap "java/lang/StringUTF16" "LO_BYTE_SHIFT" "I" (.int (8 : Int32)) := (own_staKeep f30 K33 ns0)
      have f40 : n0 ≤ T33.heap.size := (Nat.le_trans f32 K33.1)
      obtain ⟨_, _, ⟨T41, L41, k41, n41⟩, -, X41, ⟨Lc41, hQ41, l41, y41, z41⟩, st41⟩ := Jvm.LawKit.callS X33 hx (y := own_y3) hown (mvT hZ (own_g hw 45 rfl)) (mvT hZ (own_g hw 46 rfl)) (mvT hZ (own_g hw 23 rfl)) (mvT hZ (own_g hw 47 rfl)) (by decide) (backOf (W := 0) (rmGC4_1 l Z a0 hw [] t_33 kt_33 (((c0 >>> ((0 : Int32) &&& 31)).toInt8.toInt32).toInt8.toInt32) (((c0 >>> ((8 : Int32) &&& 31)).toInt8.toInt32).toInt8.toInt32) (((c1 >>> ((0 : Int32) &&& 31)).toInt8.toInt32).toInt8.toInt32) (((c1 >>> ((8 : Int32) &&& 31)).toInt8.toInt32).toInt8.toInt32) (((c2 >>> ((0 : Int32) &&& 31)).toInt8.toInt32).toInt8.toInt32) (((c2 >>> ((8 : Int32) &&& 31)).toInt8.toInt32).toInt8.toInt32) (((c3 >>> ((0 : Int32) &&& 31)).toInt8.toInt32).toInt8.toInt32) (((c3 >>> ((8 : Int32) &&& 31)).toInt8.toInt32).toInt8.toInt32) T33.heap n0 f40 f37 f38 f39 f34) hZ (own_g hw 47 rfl) (own_g hw 23 rfl) (by decide) (by decide)) (g := (mkF m 32 #[rv u0, iv (0 : Int32), iv (4 : Int32), rv b1, iv (1 : Int32), rv t_33] [(.int (1 : Int32)), (.ref t_33)])) rfl (by rw [hml]; rfl) (argsL := [(.ref t_33), (.int (1 : Int32))]) (rest := []) (lenOf pd___BI_C rfl) rfl (by show 2 * 0 + _ ≤ _; exact Nat.le_of_eq rfl) (hb hby d5_32) (fun _ _ => ⟨rfl, rfl, (by decide : 2 + 0 ≤ _), (by decide : 12 + 0 ≤ _)⟩)
      dsimp only [Pt.U, Pt.locs, Pt.cells, Pt.slots] at X41 l41 y41 z41 st41 hQ41
      subst l41 y41 z41
      obtain ⟨rfl, N41q, e41⟩ := hQ41
      have N41 := Fr.app N33 N41q
      obtain ⟨fs, hr, hrun, hended, hW, hsame⟩ := X41.leave (v := some (.ref t_33)) (fun h => by rw [Bd.returns] at h; cases h)
      refine ⟨_, _, pre4 _ ?_, hrun, hended, _, _, rfl, ?_, ⟨_, rfl⟩, hW, hsame.mono (by decide) (by decide)⟩
      · show Steps _ _ _ (T1.setTop (mkF m 9 #[rv u0, iv (0 : Int32), iv (4 : Int32), rv b1, .unset, .unset] [(.int (4 : Int32)), (.int (0 : Int32)), (.ref b1), (.int (0 : Int32)), (.ref u0)])) _
        refine st26 _ ?_
        refine XS.istore X26.here hx rfl (hb hby d5_12) rfl (l' := #[rv u0, iv (0 : Int32), iv (4 : Int32), rv b1, iv (1 : Int32), .unset]) rfl ?_
        refine XS.iload X26.here hx rfl (hb hby d5_14) rfl ?_
        show Steps _ _ _ (T26.setTop (mkF m 16 #[rv u0, iv (0 : Int32), iv (4 : Int32), rv b1, iv (1 : Int32), .unset] [(.int (1 : Int32))])) _
        refine XS.iloadN X26.here hx rfl (hb hby d5_16) rfl ?_
        refine XS.icmpNo X26.here hx rfl (hb hby d5_17) rfl (feq (by decide : ¬ ((1 : Int32) = (4 : Int32)))).1 ?_
        refine XS.aloadN X26.here hx rfl (hb hby d5_20) rfl rfl ?_
        refine XS.iloadN X26.here hx rfl (hb hby d5_21) rfl ?_
        refine XS.iloadN X26.here hx rfl (hb hby d5_22) rfl ?_
        show Steps _ _ _ (T26.setTop (mkF m 23 #[rv u0, iv (0 : Int32), iv (4 : Int32), rv b1, iv (1 : Int32), .unset] [(.int (4 : Int32)), (.int (0 : Int32)), (.ref u0)])) _
        refine st33 _ ?_
        refine XS.astore X33.here hx rfl (hb hby d5_26) rfl rfl (l' := #[rv u0, iv (0 : Int32), iv (4 : Int32), rv b1, iv (1 : Int32), rv t_33]) rfl ?_
        refine XS.aload X33.here hx rfl (hb hby d5_28) rfl rfl ?_
        refine XS.iload X33.here hx rfl (hb hby d5_30) rfl ?_
        show Steps _ _ _ (T33.setTop (mkF m 32 #[rv u0, iv (0 : Int32), iv (4 : Int32), rv b1, iv (1 : Int32), rv t_33] [(.int (1 : Int32)), (.ref t_33)])) _
        refine st41 _ ?_
        refine XS.sipush X41.here hx rfl (hb hby d5_35) ?_
        refine XS.icmpYes X41.here hx rfl (pc0 := 38) (pc' := 54) rfl (hb hby d5_38) rfl (tlt (own_gp hr1 hc9_23)).2.2.1 (by decide) (by decide) ?_
        refine XS.aload X41.here hx rfl (hb hby d5_54) rfl rfl ?_
        show Steps _ _ _ (T41.setTop (mkF m 56 #[rv u0, iv (0 : Int32), iv (4 : Int32), rv b1, iv (1 : Int32), rv t_33] [(.ref t_33)])) _
        exact retOut X41 hx Bd.returns rfl (Or.inr (Or.inr (Or.inr (Or.inr ⟨rfl, rfl, rfl⟩)))) (hb hby d5_56) hr
      · show Q_rmC3_4 Z u0 kA c0 c1 c2 c3 h0 n0 _ T41.heap _
        rw [e41]
        exact ⟨t_33, kt_33, (8 : Int32), [(.int (((c0 >>> ((0 : Int32) &&& 31)).toInt8.toInt32).toInt8.toInt32)), (.int (((c0 >>> ((8 : Int32) &&& 31)).toInt8.toInt32).toInt8.toInt32)), (.int (((c1 >>> ((0 : Int32) &&& 31)).toInt8.toInt32).toInt8.toInt32)), (.int (((c1 >>> ((8 : Int32) &&& 31)).toInt8.toInt32).toInt8.toInt32)), (.int (((c2 >>> ((0 : Int32) &&& 31)).toInt8.toInt32).toInt8.toInt32)), (.int (((c2 >>> ((8 : Int32) &&& 31)).toInt8.toInt32).toInt8.toInt32)), (.int (((c3 >>> ((0 : Int32) &&& 31)).toInt8.toInt32).toInt8.toInt32)), (.int (((c3 >>> ((8 : Int32) &&& 31)).toInt8.toInt32).toInt8.toInt32))], rfl, N41, KK33, zt_33, f34, (Or.inr rfl)⟩
    · by_cases hc9_42 : (255 : Int32) < c2
      · have f43 : Arv Z h1 u0 kA .char (4 : Int32) [(.int c0), (.int c1), (.int c2), (.int c3)] (.int (0 : Int32)) := (P_V_u0.ext E1)
        have f44 : n0 ≤ h1.size := (Nat.le_trans Z0 E1.1)
        obtain ⟨_, _, ⟨T45, L45, k45, n45⟩, -, X45, ⟨Lc45, hQ45, l45, y45, z45⟩, st45⟩ := Jvm.LawKit.callS X1 hx (y := own_y5) hown (mvT hZ (own_g hw 26 rfl)) (mvT hZ (own_g hw 27 rfl)) (mvT hZ (own_g hw 23 rfl)) (mvT hZ (own_g hw 28 rfl)) (by decide) (backOf (W := 0) (rmC5_4_2 l Z a0 hw [] u0 b1 kA c0 c1 c2 c3 k1 (0 : Int32) (0 : Int32) (0 : Int32) (0 : Int32) h1 n0 f44 f43 V1 ne2 hc9_3 hc9_23 hc9_42 o1) hZ (own_g hw 28 rfl) (own_g hw 23 rfl) (by decide) (by decide)) (g := (mkF m 9 #[rv u0, iv (0 : Int32), iv (4 : Int32), rv b1, .unset, .unset] [(.int (4 : Int32)), (.int (0 : Int32)), (.ref b1), (.int (0 : Int32)), (.ref u0)])) rfl (by rw [hml]; rfl) (argsL := [(.ref u0), (.int (0 : Int32)), (.ref b1), (.int (0 : Int32)), (.int (4 : Int32))]) (rest := []) (lenOf pd___CI_BII_I rfl) rfl (by show 2 * 0 + _ ≤ _; exact Nat.le_of_eq rfl) (hb hby d5_9) (fun _ _ => ⟨rfl, e1, (by decide : 1 + 0 ≤ _), (by decide : 4 + 0 ≤ _)⟩)
        dsimp only [Pt.U, Pt.locs, Pt.cells, Pt.slots] at X45 l45 y45 z45 st45 hQ45
        subst l45 y45 z45
        obtain ⟨rfl, N45q, K45, f46⟩ := hQ45
        have KK45 : Keep h0 T45.heap [] := Keep.trans K1 K45 (allS (Or.inr z1) all0)
        have N45 := Fr.app N0 N45q
        have f47 : Sta Z T45.heap "java/lang/StringUTF16" "$assertionsDisabled" "Z" (.int (1 : Int32)) := (own_staKeep (P_S_StringUTF16__assertionsDisabled.ext E1) K45 (nsS V1.nostat ns0))
        have f48 : Sta Z T45.heap "java/lang/StringUTF16" "HI_BYTE_SHIFT" "I" (.int (0 : Int32)) := (own_staKeep (P_S_StringUTF16_HI_BYTE_SHIFT.ext E1) K45 (nsS V1.nostat ns0))
        have f49 : Sta Z T45.heap "java/lang/StringUTF16" "LO_BYTE_SHIFT" "I" (.int (8 : Int32)) := (own_staKeep (P_S_StringUTF16_LO_BYTE_SHIFT.ext E1) K45 (nsS V1.nostat ns0))
        have f50 : Arv Z T45.heap u0 kA .char (4 : Int32) [(.int c0), (.int c1), (.int c2), (.int c3)] (.int (0 : Int32)) := (f43.keep K45 (ninS ne2 nin0))
        have f51 : n0 ≤ T45.heap.size := (Nat.le_trans f44 K45.1)
        obtain ⟨_, _, ⟨T52, L52, k52, n52⟩, -, X52, ⟨Lc52, hQ52, l52, y52, z52⟩, st52⟩ := Jvm.LawKit.callS X45 hx (y := own_y4) hown (mvT hZ (own_g hw 29 rfl)) (mvT hZ (own_g hw 30 rfl)) (mvT hZ (own_g hw 23 rfl)) (mvT hZ (own_g hw 31 rfl)) (by decide) (backOf (W := 0) (rmTB4 l Z a0 hw [] u0 kA c0 c1 c2 c3 T45.heap n0 f51 f47 f48 f49 f50) hZ (own_g hw 31 rfl) (own_g hw 23 rfl) (by decide) (by decide)) (g := (mkF m 23 #[rv u0, iv (0 : Int32), iv (4 : Int32), rv b1, iv (2 : Int32), .unset] [(.int (4 : Int32)), (.int (0 : Int32)), (.ref u0)])) rfl (by rw [hml]; rfl) (argsL := [(.ref u0), (.int (0 : Int32)), (.int (4 : Int32))]) (rest := []) (lenOf pd___CII__B rfl) rfl (by show 2 * 0 + _ ≤ _; exact Nat.le_of_eq rfl) (hb hby d5_23) (fun _ _ => ⟨rfl, rfl, (by decide : 1 + 1 ≤ _), (by decide : 4 + 8 ≤ _)⟩)
        dsimp only [Pt.U, Pt.locs, Pt.cells, Pt.slots] at X52 l52 y52 z52 st52 hQ52
        subst l52 y52 z52
        obtain ⟨t_52, kt_52, rfl, N52q, K52, sx52_0, f53⟩ := hQ52
        have ot_52 : n0 ≤ t_52 := Nat.le_trans f51 sx52_0
        have zt_52 : h0.size ≤ t_52 := Nat.le_trans KK45.1 sx52_0
        have ne54 : u0 ≠ t_52 := Nat.ne_of_lt (Nat.lt_of_lt_of_le f50.lt sx52_0)
        have ne55 : b1 ≠ t_52 := Nat.ne_of_lt (Nat.lt_of_lt_of_le f46.lt sx52_0)
        have KK52 : Keep h0 T52.heap [] := Keep.trans KK45 K52 all0
        have N52 := Fr.app N45 N52q
        have f56 : Sta Z T52.heap "java/lang/StringUTF16" "$assertionsDisabled" "Z" (.int (1 : Int32)) := (own_staKeep f47 K52 ns0)
        have f57 : Sta Z T52.heap "java/lang/StringUTF16" "HI_BYTE_SHIFT" "I" (.int (0 : Int32)) := (own_staKeep f48 K52 ns0)
        have f58 : Sta Z T52.heap "java/lang/StringUTF16" "LO_BYTE_SHIFT" "I" (.int (8 : Int32)) := (own_staKeep f49 K52 ns0)
        have f59 : n0 ≤ T52.heap.size := (Nat.le_trans f51 K52.1)
        obtain ⟨_, _, ⟨T60, L60, k60, n60⟩, -, X60, ⟨Lc60, hQ60, l60, y60, z60⟩, st60⟩ := Jvm.LawKit.callS X52 hx (y := own_y3) hown (mvT hZ (own_g hw 45 rfl)) (mvT hZ (own_g hw 46 rfl)) (mvT hZ (own_g hw 23 rfl)) (mvT hZ (own_g hw 47 rfl)) (by decide) (backOf (W := 0) (rmGC4_2 l Z a0 hw [] t_52 kt_52 (((c0 >>> ((0 : Int32) &&& 31)).toInt8.toInt32).toInt8.toInt32) (((c0 >>> ((8 : Int32) &&& 31)).toInt8.toInt32).toInt8.toInt32) (((c1 >>> ((0 : Int32) &&& 31)).toInt8.toInt32).toInt8.toInt32) (((c1 >>> ((8 : Int32) &&& 31)).toInt8.toInt32).toInt8.toInt32) (((c2 >>> ((0 : Int32) &&& 31)).toInt8.toInt32).toInt8.toInt32) (((c2 >>> ((8 : Int32) &&& 31)).toInt8.toInt32).toInt8.toInt32) (((c3 >>> ((0 : Int32) &&& 31)).toInt8.toInt32).toInt8.toInt32) (((c3 >>> ((8 : Int32) &&& 31)).toInt8.toInt32).toInt8.toInt32) T52.heap n0 f59 f56 f57 f58 f53) hZ (own_g hw 47 rfl) (own_g hw 23 rfl) (by decide) (by decide)) (g := (mkF m 32 #[rv u0, iv (0 : Int32), iv (4 : Int32), rv b1, iv (2 : Int32), rv t_52] [(.int (2 : Int32)), (.ref t_52)])) rfl (by rw [hml]; rfl) (argsL := [(.ref t_52), (.int (2 : Int32))]) (rest := []) (lenOf pd___BI_C rfl) rfl (by show 2 * 0 + _ ≤ _; exact Nat.le_of_eq rfl) (hb hby d5_32) (fun _ _ => ⟨rfl, rfl, (by decide : 2 + 0 ≤ _), (by decide : 12 + 0 ≤ _)⟩)
        dsimp only [Pt.U, Pt.locs, Pt.cells, Pt.slots] at X60 l60 y60 z60 st60 hQ60
        subst l60 y60 z60
        obtain ⟨rfl, N60q, e60⟩ := hQ60
        have N60 := Fr.app N52 N60q
        obtain ⟨fs, hr, hrun, hended, hW, hsame⟩ := X60.leave (v := some (.ref t_52)) (fun h => by rw [Bd.returns] at h; cases h)
        refine ⟨_, _, pre4 _ ?_, hrun, hended, _, _, rfl, ?_, ⟨_, rfl⟩, hW, hsame.mono (by decide) (by decide)⟩
        · show Steps _ _ _ (T1.setTop (mkF m 9 #[rv u0, iv (0 : Int32), iv (4 : Int32), rv b1, .unset, .unset] [(.int (4 : Int32)), (.int (0 : Int32)), (.ref b1), (.int (0 : Int32)), (.ref u0)])) _
          refine st45 _ ?_
          refine XS.istore X45.here hx rfl (hb hby d5_12) rfl (l' := #[rv u0, iv (0 : Int32), iv (4 : Int32), rv b1, iv (2 : Int32), .unset]) rfl ?_
          refine XS.iload X45.here hx rfl (hb hby d5_14) rfl ?_
          refine XS.iloadN X45.here hx rfl (hb hby d5_16) rfl ?_
          refine XS.icmpNo X45.here hx rfl (hb hby d5_17) rfl (feq (by decide : ¬ ((2 : Int32) = (4 : Int32)))).1 ?_
          refine XS.aloadN X45.here hx rfl (hb hby d5_20) rfl rfl ?_
          refine XS.iloadN X45.here hx rfl (hb hby d5_21) rfl ?_
          refine XS.iloadN X45.here hx rfl (hb hby d5_22) rfl ?_
          show Steps _ _ _ (T45.setTop (mkF m 23 #[rv u0, iv (0 : Int32), iv (4 : Int32), rv b1, iv (2 : Int32), .unset] [(.int (4 : Int32)), (.int (0 : Int32)), (.ref u0)])) _
          refine st52 _ ?_
          refine XS.astore X52.here hx rfl (hb hby d5_26) rfl rfl (l' := #[rv u0, iv (0 : Int32), iv (4 : Int32), rv b1, iv (2 : Int32), rv t_52]) rfl ?_
          refine XS.aload X52.here hx rfl (hb hby d5_28) rfl rfl ?_
          refine XS.iload X52.here hx rfl (hb hby d5_30) rfl ?_
          show Steps _ _ _ (T52.setTop (mkF m 32 #[rv u0, iv (0 : Int32), iv (4 : Int32), rv b1, iv (2 : Int32), rv t_52] [(.int (2 : Int32)), (.ref t_52)])) _
          refine st60 _ ?_
          refine XS.sipush X60.here hx rfl (hb hby d5_35) ?_
          refine XS.icmpYes X60.here hx rfl (pc0 := 38) (pc' := 54) rfl (hb hby d5_38) rfl (tlt (own_gp hr2 hc9_42)).2.2.1 (by decide) (by decide) ?_
          refine XS.aload X60.here hx rfl (hb hby d5_54) rfl rfl ?_
          show Steps _ _ _ (T60.setTop (mkF m 56 #[rv u0, iv (0 : Int32), iv (4 : Int32), rv b1, iv (2 : Int32), rv t_52] [(.ref t_52)])) _
          exact retOut X60 hx Bd.returns rfl (Or.inr (Or.inr (Or.inr (Or.inr ⟨rfl, rfl, rfl⟩)))) (hb hby d5_56) hr
        · show Q_rmC3_4 Z u0 kA c0 c1 c2 c3 h0 n0 _ T60.heap _
          rw [e60]
          exact ⟨t_52, kt_52, (8 : Int32), [(.int (((c0 >>> ((0 : Int32) &&& 31)).toInt8.toInt32).toInt8.toInt32)), (.int (((c0 >>> ((8 : Int32) &&& 31)).toInt8.toInt32).toInt8.toInt32)), (.int (((c1 >>> ((0 : Int32) &&& 31)).toInt8.toInt32).toInt8.toInt32)), (.int (((c1 >>> ((8 : Int32) &&& 31)).toInt8.toInt32).toInt8.toInt32)), (.int (((c2 >>> ((0 : Int32) &&& 31)).toInt8.toInt32).toInt8.toInt32)), (.int (((c2 >>> ((8 : Int32) &&& 31)).toInt8.toInt32).toInt8.toInt32)), (.int (((c3 >>> ((0 : Int32) &&& 31)).toInt8.toInt32).toInt8.toInt32)), (.int (((c3 >>> ((8 : Int32) &&& 31)).toInt8.toInt32).toInt8.toInt32))], rfl, N60, KK52, zt_52, f53, (Or.inr rfl)⟩
      · by_cases hc9_61 : (255 : Int32) < c3
        · have f62 : Arv Z h1 u0 kA .char (4 : Int32) [(.int c0), (.int c1), (.int c2), (.int c3)] (.int (0 : Int32)) := (P_V_u0.ext E1)
          have f63 : n0 ≤ h1.size := (Nat.le_trans Z0 E1.1)
          obtain ⟨_, _, ⟨T64, L64, k64, n64⟩, -, X64, ⟨Lc64, hQ64, l64, y64, z64⟩, st64⟩ := Jvm.LawKit.callS X1 hx (y := own_y5) hown (mvT hZ (own_g hw 26 rfl)) (mvT hZ (own_g hw 27 rfl)) (mvT hZ (own_g hw 23 rfl)) (mvT hZ (own_g hw 28 rfl)) (by decide) (backOf (W := 0) (rmC5_4_3 l Z a0 hw [] u0 b1 kA c0 c1 c2 c3 k1 (0 : Int32) (0 : Int32) (0 : Int32) (0 : Int32) h1 n0 f63 f62 V1 ne2 hc9_3 hc9_23 hc9_42 hc9_61 o1) hZ (own_g hw 28 rfl) (own_g hw 23 rfl) (by decide) (by decide)) (g := (mkF m 9 #[rv u0, iv (0 : Int32), iv (4 : Int32), rv b1, .unset, .unset] [(.int (4 : Int32)), (.int (0 : Int32)), (.ref b1), (.int (0 : Int32)), (.ref u0)])) rfl (by rw [hml]; rfl) (argsL := [(.ref u0), (.int (0 : Int32)), (.ref b1), (.int (0 : Int32)), (.int (4 : Int32))]) (rest := []) (lenOf pd___CI_BII_I rfl) rfl (by show 2 * 0 + _ ≤ _; exact Nat.le_of_eq rfl) (hb hby d5_9) (fun _ _ => ⟨rfl, e1, (by decide : 1 + 0 ≤ _), (by decide : 4 + 0 ≤ _)⟩)
          dsimp only [Pt.U, Pt.locs, Pt.cells, Pt.slots] at X64 l64 y64 z64 st64 hQ64
          subst l64 y64 z64
          obtain ⟨rfl, N64q, K64, f65⟩ := hQ64
          have KK64 : Keep h0 T64.heap [] := Keep.trans K1 K64 (allS (Or.inr z1) all0)
          have N64 := Fr.app N0 N64q
          have f66 : Sta Z T64.heap "java/lang/StringUTF16" "$assertionsDisabled" "Z" (.int (1 : Int32)) := (own_staKeep (P_S_StringUTF16__assertionsDisabled.ext E1) K64 (nsS V1.nostat ns0))
          have f67 : Sta Z T64.heap "java/lang/StringUTF16" "HI_BYTE_SHIFT" "I" (.int (0 : Int32)) := (own_staKeep (P_S_StringUTF16_HI_BYTE_SHIFT.ext E1) K64 (nsS V1.nostat ns0))
          have f68 : Sta Z T64.heap "java/lang/StringUTF16" "LO_BYTE_SHIFT" "I" (.int (8 : Int32)) := (own_staKeep (P_S_StringUTF16_LO_BYTE_SHIFT.ext E1) K64 (nsS V1.nostat ns0))
          have f69 : Arv Z T64.heap u0 kA .char (4 : Int32) [(.int c0), (.int c1), (.int c2), (.int c3)] (.int (0 : Int32)) := (f62.keep K64 (ninS ne2 nin0))
          have f70 : n0 ≤ T64.heap.size := (Nat.le_trans f63 K64.1)
          obtain ⟨_, _, ⟨T71, L71, k71, n71⟩, -, X71, ⟨Lc71, hQ71, l71, y71, z71⟩, st71⟩ := Jvm.LawKit.callS X64 hx (y := own_y4) hown (mvT hZ (own_g hw 29 rfl)) (mvT hZ (own_g hw 30 rfl)) (mvT hZ (own_g hw 23 rfl)) (mvT hZ (own_g hw 31 rfl)) (by decide) (backOf (W := 0) (rmTB4 l Z a0 hw [] u0 kA c0 c1 c2 c3 T64.heap n0 f70 f66 f67 f68 f69) hZ (own_g hw 31 rfl) (own_g hw 23 rfl) (by decide) (by decide)) (g := (mkF m 23 #[rv u0, iv (0 : Int32), iv (4 : Int32), rv b1, iv (3 : Int32), .unset] [(.int (4 : Int32)), (.int (0 : Int32)), (.ref u0)])) rfl (by rw [hml]; rfl) (argsL := [(.ref u0), (.int (0 : Int32)), (.int (4 : Int32))]) (rest := []) (lenOf pd___CII__B rfl) rfl (by show 2 * 0 + _ ≤ _; exact Nat.le_of_eq rfl) (hb hby d5_23) (fun _ _ => ⟨rfl, rfl, (by decide : 1 + 1 ≤ _), (by decide : 4 + 8 ≤ _)⟩)
          dsimp only [Pt.U, Pt.locs, Pt.cells, Pt.slots] at X71 l71 y71 z71 st71 hQ71
          subst l71 y71 z71
          obtain ⟨t_71, kt_71, rfl, N71q, K71, sx71_0, f72⟩ := hQ71
          have ot_71 : n0 ≤ t_71 := Nat.le_trans f70 sx71_0
          have zt_71 : h0.size ≤ t_71 := Nat.le_trans KK64.1 sx71_0
          have ne73 : u0 ≠ t_71 := Nat.ne_of_lt (Nat.lt_of_lt_of_le f69.lt sx71_0)
          have ne74 : b1 ≠ t_71 := Nat.ne_of_lt (Nat.lt_of_lt_of_le f65.lt sx71_0)
          have KK71 : Keep h0 T71.heap [] := Keep.trans KK64 K71 all0
          have N71 := Fr.app N64 N71q
          have f75 : Sta Z T71.heap "java/lang/StringUTF16" "$assertionsDisabled" "Z" (.int (1 : Int32)) := (own_staKeep f66 K71 ns0)
          have f76 : Sta Z T71.heap "java/lang/StringUTF16" "HI_BYTE_SHIFT" "I" (.int (0 : Int32)) := (own_staKeep f67 K71 ns0)
          have f77 : Sta Z T71.heap "java/lang/StringUTF16" "LO_BYTE_SHIFT" "I" (.int (8 : Int32)) := (own_staKeep f68 K71 ns0)
          have f78 : n0 ≤ T71.heap.size := (Nat.le_trans f70 K71.1)
          obtain ⟨_, _, ⟨T79, L79, k79, n79⟩, -, X79, ⟨Lc79, hQ79, l79, y79, z79⟩, st79⟩ := Jvm.LawKit.callS X71 hx (y := own_y3) hown (mvT hZ (own_g hw 45 rfl)) (mvT hZ (own_g hw 46 rfl)) (mvT hZ (own_g hw 23 rfl)) (mvT hZ (own_g hw 47 rfl)) (by decide) (backOf (W := 0) (rmGC4_3 l Z a0 hw [] t_71 kt_71 (((c0 >>> ((0 : Int32) &&& 31)).toInt8.toInt32).toInt8.toInt32) (((c0 >>> ((8 : Int32) &&& 31)).toInt8.toInt32).toInt8.toInt32) (((c1 >>> ((0 : Int32) &&& 31)).toInt8.toInt32).toInt8.toInt32) (((c1 >>> ((8 : Int32) &&& 31)).toInt8.toInt32).toInt8.toInt32) (((c2 >>> ((0 : Int32) &&& 31)).toInt8.toInt32).toInt8.toInt32) (((c2 >>> ((8 : Int32) &&& 31)).toInt8.toInt32).toInt8.toInt32) (((c3 >>> ((0 : Int32) &&& 31)).toInt8.toInt32).toInt8.toInt32) (((c3 >>> ((8 : Int32) &&& 31)).toInt8.toInt32).toInt8.toInt32) T71.heap n0 f78 f75 f76 f77 f72) hZ (own_g hw 47 rfl) (own_g hw 23 rfl) (by decide) (by decide)) (g := (mkF m 32 #[rv u0, iv (0 : Int32), iv (4 : Int32), rv b1, iv (3 : Int32), rv t_71] [(.int (3 : Int32)), (.ref t_71)])) rfl (by rw [hml]; rfl) (argsL := [(.ref t_71), (.int (3 : Int32))]) (rest := []) (lenOf pd___BI_C rfl) rfl (by show 2 * 0 + _ ≤ _; exact Nat.le_of_eq rfl) (hb hby d5_32) (fun _ _ => ⟨rfl, rfl, (by decide : 2 + 0 ≤ _), (by decide : 12 + 0 ≤ _)⟩)
          dsimp only [Pt.U, Pt.locs, Pt.cells, Pt.slots] at X79 l79 y79 z79 st79 hQ79
          subst l79 y79 z79
          obtain ⟨rfl, N79q, e79⟩ := hQ79
          have N79 := Fr.app N71 N79q
          obtain ⟨fs, hr, hrun, hended, hW, hsame⟩ := X79.leave (v := some (.ref t_71)) (fun h => by rw [Bd.returns] at h; cases h)
          refine ⟨_, _, pre4 _ ?_, hrun, hended, _, _, rfl, ?_, ⟨_, rfl⟩, hW, hsame.mono (by decide) (by decide)⟩
          · show Steps _ _ _ (T1.setTop (mkF m 9 #[rv u0, iv (0 : Int32), iv (4 : Int32), rv b1, .unset, .unset] [(.int (4 : Int32)), (.int (0 : Int32)), (.ref b1), (.int (0 : Int32)), (.ref u0)])) _
            refine st64 _ ?_
            show Steps _ _ _ (T64.setTop (mkF m 12 #[rv u0, iv (0 : Int32), iv (4 : Int32), rv b1, .unset, .unset] [(.int (3 : Int32))])) _
            refine XS.istore X64.here hx rfl (hb hby d5_12) rfl (l' := #[rv u0, iv (0 : Int32), iv (4 : Int32), rv b1, iv (3 : Int32), .unset]) rfl ?_
            refine XS.iload X64.here hx rfl (hb hby d5_14) rfl ?_
            refine XS.iloadN X64.here hx rfl (hb hby d5_16) rfl ?_
            refine XS.icmpNo X64.here hx rfl (hb hby d5_17) rfl (feq (by decide : ¬ ((3 : Int32) = (4 : Int32)))).1 ?_
            refine XS.aloadN X64.here hx rfl (hb hby d5_20) rfl rfl ?_
            refine XS.iloadN X64.here hx rfl (hb hby d5_21) rfl ?_
            refine XS.iloadN X64.here hx rfl (hb hby d5_22) rfl ?_
            show Steps _ _ _ (T64.setTop (mkF m 23 #[rv u0, iv (0 : Int32), iv (4 : Int32), rv b1, iv (3 : Int32), .unset] [(.int (4 : Int32)), (.int (0 : Int32)), (.ref u0)])) _
            refine st71 _ ?_
            refine XS.astore X71.here hx rfl (hb hby d5_26) rfl rfl (l' := #[rv u0, iv (0 : Int32), iv (4 : Int32), rv b1, iv (3 : Int32), rv t_71]) rfl ?_
            refine XS.aload X71.here hx rfl (hb hby d5_28) rfl rfl ?_
            refine XS.iload X71.here hx rfl (hb hby d5_30) rfl ?_
            show Steps _ _ _ (T71.setTop (mkF m 32 #[rv u0, iv (0 : Int32), iv (4 : Int32), rv b1, iv (3 : Int32), rv t_71] [(.int (3 : Int32)), (.ref t_71)])) _
            refine st79 _ ?_
            refine XS.sipush X79.here hx rfl (hb hby d5_35) ?_
            refine XS.icmpYes X79.here hx rfl (pc0 := 38) (pc' := 54) rfl (hb hby d5_38) rfl (tlt (own_gp hr3 hc9_61)).2.2.1 (by decide) (by decide) ?_
            refine XS.aload X79.here hx rfl (hb hby d5_54) rfl rfl ?_
            show Steps _ _ _ (T79.setTop (mkF m 56 #[rv u0, iv (0 : Int32), iv (4 : Int32), rv b1, iv (3 : Int32), rv t_71] [(.ref t_71)])) _
            exact retOut X79 hx Bd.returns rfl (Or.inr (Or.inr (Or.inr (Or.inr ⟨rfl, rfl, rfl⟩)))) (hb hby d5_56) hr
          · show Q_rmC3_4 Z u0 kA c0 c1 c2 c3 h0 n0 _ T79.heap _
            rw [e79]
            exact ⟨t_71, kt_71, (8 : Int32), [(.int (((c0 >>> ((0 : Int32) &&& 31)).toInt8.toInt32).toInt8.toInt32)), (.int (((c0 >>> ((8 : Int32) &&& 31)).toInt8.toInt32).toInt8.toInt32)), (.int (((c1 >>> ((0 : Int32) &&& 31)).toInt8.toInt32).toInt8.toInt32)), (.int (((c1 >>> ((8 : Int32) &&& 31)).toInt8.toInt32).toInt8.toInt32)), (.int (((c2 >>> ((0 : Int32) &&& 31)).toInt8.toInt32).toInt8.toInt32)), (.int (((c2 >>> ((8 : Int32) &&& 31)).toInt8.toInt32).toInt8.toInt32)), (.int (((c3 >>> ((0 : Int32) &&& 31)).toInt8.toInt32).toInt8.toInt32)), (.int (((c3 >>> ((8 : Int32) &&& 31)).toInt8.toInt32).toInt8.toInt32))], rfl, N79, KK71, zt_71, f72, (Or.inr rfl)⟩
        · have f80 : Arv Z h1 u0 kA .char (4 : Int32) [(.int c0), (.int c1), (.int c2), (.int c3)] (.int (0 : Int32)) := (P_V_u0.ext E1)
          have f81 : n0 ≤ h1.size := (Nat.le_trans Z0 E1.1)
          obtain ⟨_, _, ⟨T82, L82, k82, n82⟩, -, X82, ⟨Lc82, hQ82, l82, y82, z82⟩, st82⟩ := Jvm.LawKit.callS X1 hx (y := own_y5) hown (mvT hZ (own_g hw 26 rfl)) (mvT hZ (own_g hw 27 rfl)) (mvT hZ (own_g hw 23 rfl)) (mvT hZ (own_g hw 28 rfl)) (by decide) (backOf (W := 0) (rmC5_4_4 l Z a0 hw [] u0 b1 kA c0 c1 c2 c3 k1 (0 : Int32) (0 : Int32) (0 : Int32) (0 : Int32) h1 n0 f81 f80 V1 ne2 hc9_3 hc9_23 hc9_42 hc9_61 o1) hZ (own_g hw 28 rfl) (own_g hw 23 rfl) (by decide) (by decide)) (g := (mkF m 9 #[rv u0, iv (0 : Int32), iv (4 : Int32), rv b1, .unset, .unset] [(.int (4 : Int32)), (.int (0 : Int32)), (.ref b1), (.int (0 : Int32)), (.ref u0)])) rfl (by rw [hml]; rfl) (argsL := [(.ref u0), (.int (0 : Int32)), (.ref b1), (.int (0 : Int32)), (.int (4 : Int32))]) (rest := []) (lenOf pd___CI_BII_I rfl) rfl (by show 2 * 0 + _ ≤ _; exact Nat.le_of_eq rfl) (hb hby d5_9) (fun _ _ => ⟨rfl, e1, (by decide : 1 + 0 ≤ _), (by decide : 4 + 0 ≤ _)⟩)
          dsimp only [Pt.U, Pt.locs, Pt.cells, Pt.slots] at X82 l82 y82 z82 st82 hQ82
          subst l82 y82 z82
          obtain ⟨rfl, N82q, K82, f83⟩ := hQ82
          have KK82 : Keep h0 T82.heap [] := Keep.trans K1 K82 (allS (Or.inr z1) all0)
          have N82 := Fr.app N0 N82q
          obtain ⟨fs, hr, hrun, hended, hW, hsame⟩ := X82.leave (v := some (.ref b1)) (fun h => by rw [Bd.returns] at h; cases h)
          refine ⟨_, _, pre4 _ ?_, hrun, hended, _, _, rfl, ?_, ⟨_, rfl⟩, hW, hsame.mono (by decide) (by decide)⟩
          · show Steps _ _ _ (T1.setTop (mkF m 9 #[rv u0, iv (0 : Int32), iv (4 : Int32), rv b1, .unset, .unset] [(.int (4 : Int32)), (.int (0 : Int32)), (.ref b1), (.int (0 : Int32)), (.ref u0)])) _
            refine st82 _ ?_
            refine XS.istore X82.here hx rfl (hb hby d5_12) rfl (l' := #[rv u0, iv (0 : Int32), iv (4 : Int32), rv b1, iv (4 : Int32), .unset]) rfl ?_
            refine XS.iload X82.here hx rfl (hb hby d5_14) rfl ?_
            refine XS.iloadN X82.here hx rfl (hb hby d5_16) rfl ?_
            refine XS.icmpYes X82.here hx rfl (pc0 := 17) (pc' := 57) rfl (hb hby d5_17) rfl (teq (by decide : (4 : Int32) = (4 : Int32))).1 (by decide) (by decide) ?_
            refine XS.aloadN X82.here hx rfl (hb hby d5_57) rfl rfl ?_
            show Steps _ _ _ (T82.setTop (mkF m 58 #[rv u0, iv (0 : Int32), iv (4 : Int32), rv b1, iv (4 : Int32), .unset] [(.ref b1)])) _
            exact retOut X82 hx Bd.returns rfl (Or.inr (Or.inr (Or.inr (Or.inr ⟨rfl, rfl, rfl⟩)))) (hb hby d5_58) hr
          · show Q_rmC3_4 Z u0 kA c0 c1 c2 c3 h0 n0 _ T82.heap _
            exact ⟨b1, k1, (4 : Int32), [(.int ((c0.toInt8.toInt32).toInt8.toInt32)), (.int ((c1.toInt8.toInt32).toInt8.toInt32)), (.int ((c2.toInt8.toInt32).toInt8.toInt32)), (.int ((c3.toInt8.toInt32).toInt8.toInt32))], rfl, N82, KK82, z1, f83, (Or.inl rfl)⟩

theorem ef_rmCF4_4 (m : MethodId) (x0 : Addr) (x1 : Int32) : entryFrame m #[(.ref x0), (.int x1)] 2 = mkF m 0 #[rv x0, iv x1] [] := by first | (simp [entryFrame, mkF, argsToLocals, Value.category]; done) | rfl
set_option maxRecDepth 65536 in
set_option maxHeartbeats 40000000 in
theorem rmCF4_4 (l : Launch) (Z : State) (a0 : Array Value) (hw : ∀ d ∈ tables_1, d.before a0 Z = true) (ws : List Jvm.Cond) (u0 : Addr) (kt : ClassId) (vs : List Value) (h0 : Heap) (n0 : Nat) (Z0 : n0 ≤ h0.size) (P_G_u0 : Arv Z h0 u0 kt .byte (4 : Int32) vs (.int 0)) :
    MetFree l own_y7 (head1 (Jvm.Cond.code own_y7 jdk_52_method_15_code 2 (some .byte) :: ws) ({ frames := 0, cells := 0, slots := 0, locals := 0 } : Room)) (fun a U => a = #[(.ref u0), (.int (4 : Int32))] ∧ Z.Warmed39 U.vm ∧ U.heap = h0) (fun _ _ _ _ _ => True) (fun _ U o U' => ∃ v L, o = .returned v ∧ own_QP (some (.int (0 : Int32))) h0 n0 v U'.heap L ∧ FrameEnd U o U' L ({ frames := 0, cells := 0, slots := 0, locals := 0 } : Room).cells ({ frames := 0, cells := 0, slots := 0, locals := 0 } : Room).slots) := by
  refine MetFree.of_bodySF (plainFor_of_name pn_12) hisR ?_
  intro p e s m args below meth c s₁ Bd hml0 hP hK
  obtain ⟨rfl, hZ, hh⟩ := hP
  have hx := Bd.exec
  have hby := Bd.bytes
  have hml : c.maxLocals = 2 := hml0
  have hown : s.vm.findClass "java/lang/StringUTF16" = some m.cls := findClass_of_methodNamed Bd.named
  have hnm := (name_of_methodNamed Bd.named Bd.method).1
  have X0 : Stand p l e ({ frames := 0, cells := 0, slots := 0, locals := 0 } : Room) s m #[(.ref u0), (.int (4 : Int32))] below meth c s₁ [] 0 0 := Stand.of_body Bd
  have e0 : s₁.heap = h0 := by rw [← hh, Bd.state]; rfl
  have N0 := Fr.nil n0
  have pre0 : ∀ t, Steps p.tables e below (s₁.setTop (mkF m 0 #[rv u0, iv (4 : Int32)] [])) t → Steps p.tables e below (s₁.setTop (entryFrame m #[(.ref u0), (.int (4 : Int32))] 2)) t := fun t k => castTop (ef_rmCF4_4 m u0 (4 : Int32)) k
  obtain ⟨cl1, Ar1, qq1, S1, N1_, H1, G1⟩ := id P_G_u0
  obtain ⟨fs, hr, hrun, hended, hW, hsame⟩ := X0.leave (v := some (.int (0 : Int32))) (fun h => by rw [Bd.returns] at h; cases h)
  refine ⟨_, _, pre0 _ ?_, hrun, hended, _, _, rfl, ?_, ⟨_, rfl⟩, hW, hsame.mono (by decide) (by decide)⟩
  · refine XS.iloadN X0.here hx rfl (hb hby d12_0) rfl ?_
    refine XS.aloadN X0.here hx rfl (hb hby d12_1) rfl rfl ?_
    refine X0.arraylength hx (by rw [e0]; exact Ar1.1) (State.isArrayOf_alike hZ.alike Ar1.2.1) (g := (mkF m 2 #[rv u0, iv (4 : Int32)] [(.ref u0), (.int (4 : Int32))])) rfl rfl (hb hby d12_2) _ ?_
    rw [len_of S1 N1_]
    refine XS.isub X0.here hx rfl (hb hby d12_3) rfl ?_
    refine XS.bipush X0.here hx rfl (hb hby d12_4) ?_
    refine XS.iushr X0.here hx rfl (hb hby d12_6) rfl ?_
    show Steps _ _ _ (s₁.setTop (mkF m 7 #[rv u0, iv (4 : Int32)] [(.int (((0 : Int32).toUInt32 >>> ((31 : Int32) &&& 31).toUInt32).toInt32))])) _
    rw [(by decide : (((0 : Int32).toUInt32 >>> ((31 : Int32) &&& 31).toUInt32).toInt32) = (0 : Int32))]
    refine XS.i2b X0.here hx rfl (hb hby d12_7) rfl ?_
    show Steps _ _ _ (s₁.setTop (mkF m 8 #[rv u0, iv (4 : Int32)] [(.int ((0 : Int32).toInt8.toInt32))])) _
    rw [(by decide : ((0 : Int32).toInt8.toInt32) = (0 : Int32))]
    show Steps _ _ _ (s₁.setTop (mkF m 8 #[rv u0, iv (4 : Int32)] [(.int (0 : Int32))])) _
    exact retN X0 hx (t := .byte) Bd.returns (by simp) (hb hby d12_8) hr
  · show own_QP (some (.int (0 : Int32))) h0 n0 _ s₁.heap _
    rw [e0]
    exact ⟨rfl, N0, rfl⟩

theorem ef_rmCF4_8 (m : MethodId) (x0 : Addr) (x1 : Int32) : entryFrame m #[(.ref x0), (.int x1)] 2 = mkF m 0 #[rv x0, iv x1] [] := by first | (simp [entryFrame, mkF, argsToLocals, Value.category]; done) | rfl
set_option maxRecDepth 65536 in
set_option maxHeartbeats 40000000 in
theorem rmCF4_8 (l : Launch) (Z : State) (a0 : Array Value) (hw : ∀ d ∈ tables_1, d.before a0 Z = true) (ws : List Jvm.Cond) (u0 : Addr) (kt : ClassId) (vs : List Value) (h0 : Heap) (n0 : Nat) (Z0 : n0 ≤ h0.size) (P_G_u0 : Arv Z h0 u0 kt .byte (8 : Int32) vs (.int 0)) :
    MetFree l own_y7 (head1 (Jvm.Cond.code own_y7 jdk_52_method_15_code 2 (some .byte) :: ws) ({ frames := 0, cells := 0, slots := 0, locals := 0 } : Room)) (fun a U => a = #[(.ref u0), (.int (4 : Int32))] ∧ Z.Warmed39 U.vm ∧ U.heap = h0) (fun _ _ _ _ _ => True) (fun _ U o U' => ∃ v L, o = .returned v ∧ own_QP (some (.int (1 : Int32))) h0 n0 v U'.heap L ∧ FrameEnd U o U' L ({ frames := 0, cells := 0, slots := 0, locals := 0 } : Room).cells ({ frames := 0, cells := 0, slots := 0, locals := 0 } : Room).slots) := by
  refine MetFree.of_bodySF (plainFor_of_name pn_12) hisR ?_
  intro p e s m args below meth c s₁ Bd hml0 hP hK
  obtain ⟨rfl, hZ, hh⟩ := hP
  have hx := Bd.exec
  have hby := Bd.bytes
  have hml : c.maxLocals = 2 := hml0
  have hown : s.vm.findClass "java/lang/StringUTF16" = some m.cls := findClass_of_methodNamed Bd.named
  have hnm := (name_of_methodNamed Bd.named Bd.method).1
  have X0 : Stand p l e ({ frames := 0, cells := 0, slots := 0, locals := 0 } : Room) s m #[(.ref u0), (.int (4 : Int32))] below meth c s₁ [] 0 0 := Stand.of_body Bd
  have e0 : s₁.heap = h0 := by rw [← hh, Bd.state]; rfl
  have N0 := Fr.nil n0
  have pre0 : ∀ t, Steps p.tables e below (s₁.setTop (mkF m 0 #[rv u0, iv (4 : Int32)] [])) t → Steps p.tables e below (s₁.setTop (entryFrame m #[(.ref u0), (.int (4 : Int32))] 2)) t := fun t k => castTop (ef_rmCF4_8 m u0 (4 : Int32)) k
  obtain ⟨cl1, Ar1, qq1, S1, N1_, H1, G1⟩ := id P_G_u0
  obtain ⟨fs, hr, hrun, hended, hW, hsame⟩ := X0.leave (v := some (.int (1 : Int32))) (fun h => by rw [Bd.returns] at h; cases h)
  refine ⟨_, _, pre0 _ ?_, hrun, hended, _, _, rfl, ?_, ⟨_, rfl⟩, hW, hsame.mono (by decide) (by decide)⟩
  · refine XS.iloadN X0.here hx rfl (hb hby d12_0) rfl ?_
    refine XS.aloadN X0.here hx rfl (hb hby d12_1) rfl rfl ?_
    refine X0.arraylength hx (by rw [e0]; exact Ar1.1) (State.isArrayOf_alike hZ.alike Ar1.2.1) (g := (mkF m 2 #[rv u0, iv (4 : Int32)] [(.ref u0), (.int (4 : Int32))])) rfl rfl (hb hby d12_2) _ ?_
    rw [len_of S1 N1_]
    refine XS.isub X0.here hx rfl (hb hby d12_3) rfl ?_
    refine XS.bipush X0.here hx rfl (hb hby d12_4) ?_
    refine XS.iushr X0.here hx rfl (hb hby d12_6) rfl ?_
    show Steps _ _ _ (s₁.setTop (mkF m 7 #[rv u0, iv (4 : Int32)] [(.int (((-4 : Int32).toUInt32 >>> ((31 : Int32) &&& 31).toUInt32).toInt32))])) _
    rw [(by decide : (((-4 : Int32).toUInt32 >>> ((31 : Int32) &&& 31).toUInt32).toInt32) = (1 : Int32))]
    refine XS.i2b X0.here hx rfl (hb hby d12_7) rfl ?_
    show Steps _ _ _ (s₁.setTop (mkF m 8 #[rv u0, iv (4 : Int32)] [(.int ((1 : Int32).toInt8.toInt32))])) _
    rw [(by decide : ((1 : Int32).toInt8.toInt32) = (1 : Int32))]
    show Steps _ _ _ (s₁.setTop (mkF m 8 #[rv u0, iv (4 : Int32)] [(.int (1 : Int32))])) _
    exact retN X0 hx (t := .byte) Bd.returns (by simp) (hb hby d12_8) hr
  · show own_QP (some (.int (1 : Int32))) h0 n0 _ s₁.heap _
    rw [e0]
    exact ⟨rfl, N0, rfl⟩

theorem ef_rmI4_4 (m : MethodId) (x0 : Addr) (x1 : Addr) (x2 : Int32) (x3 : Int32) : entryFrame m #[(.ref x0), (.ref x1), (.int x2), (.int x3), .null] 6 = mkF m 0 #[rv x0, rv x1, iv x2, iv x3, .val .null, .unset] [] := by first | (simp [entryFrame, mkF, argsToLocals, Value.category]; done) | rfl
def Q_rmI4_4 (Z : State) (u0 : Addr) (u1 : Addr) (kA : ClassId) (c0 : Int32) (c1 : Int32) (c2 : Int32) (c3 : Int32) (zC : Int32) (h0 : Heap) (n0 : Nat) (v : Option Value) (h : Heap) (L : List Loc) : Prop := ∃ (t : Addr), ∃ (kt : ClassId), ∃ (z : Int32), ∃ (vs : List Value), ∃ (cd : Int32), (v = none ∧ Fr n0 L ∧ Keep h0 h [u0] ∧ h0.size ≤ t ∧ Exa Z h u0 "java/lang/String" ∧ Fld Z h u0 "java/lang/String" "value" "[B" (.ref t) ∧ Fld Z h u0 "java/lang/String" "coder" "B" (.int cd) ∧ Arv Z h t kt .byte z vs (.int 0) ∧ (z >>> (cd &&& 31)) = (4 : Int32) ∧ (cd = 0 ∨ cd = 1))
set_option maxRecDepth 65536 in
set_option maxHeartbeats 40000000 in
theorem rmI4_4 (l : Launch) (Z : State) (a0 : Array Value) (hw : ∀ d ∈ tables_1, d.before a0 Z = true) (ws : List Jvm.Cond) (u0 : Addr) (u1 : Addr) (kA : ClassId) (c0 : Int32) (c1 : Int32) (c2 : Int32) (c3 : Int32) (zC : Int32) (h0 : Heap) (n0 : Nat) (Z0 : n0 ≤ h0.size) (P_E_u0 : Exa Z h0 u0 "java/lang/String") (P_F_u0_String_value : Fld Z h0 u0 "java/lang/String" "value" "[B" .null) (P_F_u0_String_coder : Fld Z h0 u0 "java/lang/String" "coder" "B" (.int (0 : Int32))) (P_V_u1 : Arv Z h0 u1 kA .char (4 : Int32) [(.int c0), (.int c1), (.int c2), (.int c3)] (.int (0 : Int32))) (neA : u0 ≠ u1) (hr0 : ¬ c0 < 0 ∧ ¬ (65535 : Int32) < c0) (hr1 : ¬ c1 < 0 ∧ ¬ (65535 : Int32) < c1) (hr2 : ¬ c2 < 0 ∧ ¬ (65535 : Int32) < c2) (hr3 : ¬ c3 < 0 ∧ ¬ (65535 : Int32) < c3) (P_S_StringUTF16__assertionsDisabled : Sta Z h0 "java/lang/StringUTF16" "$assertionsDisabled" "Z" (.int (1 : Int32))) (P_S_StringUTF16_HI_BYTE_SHIFT : Sta Z h0 "java/lang/StringUTF16" "HI_BYTE_SHIFT" "I" (.int (0 : Int32))) (P_S_StringUTF16_LO_BYTE_SHIFT : Sta Z h0 "java/lang/StringUTF16" "LO_BYTE_SHIFT" "I" (.int (8 : Int32))) (P_S_String_COMPACT_STRINGS : Sta Z h0 "java/lang/String" "COMPACT_STRINGS" "Z" (.int zC)) (hz : ¬ (zC = (0 : Int32))) (g_u0 : n0 ≤ u0) :
    MetFree l own_y8 (head1 (Jvm.Cond.code own_y8 jdk_42_method_149_code 6 none :: ws) ({ frames := 4, cells := 2, slots := 12, locals := 57 } : Room)) (fun a U => a = #[(.ref u0), (.ref u1), (.int (0 : Int32)), (.int (4 : Int32)), .null] ∧ Z.Warmed39 U.vm ∧ U.heap = h0) (fun _ _ _ _ _ => True) (fun _ U o U' => ∃ v L, o = .returned v ∧ Q_rmI4_4 Z u0 u1 kA c0 c1 c2 c3 zC h0 n0 v U'.heap L ∧ FrameEnd U o U' L ({ frames := 4, cells := 2, slots := 12, locals := 57 } : Room).cells ({ frames := 4, cells := 2, slots := 12, locals := 57 } : Room).slots) := by
  refine MetFree.of_bodySF (plainFor_of_name pn_3) hisR ?_
  intro p e s m args below meth c s₁ Bd hml0 hP hK
  obtain ⟨rfl, hZ, hh⟩ := hP
  have hx := Bd.exec
  have hby := Bd.bytes
  have hml : c.maxLocals = 6 := hml0
  have hown : s.vm.findClass "java/lang/String" = some m.cls := findClass_of_methodNamed Bd.named
  have hnm := (name_of_methodNamed Bd.named Bd.method).1
  have X0 : Stand p l e ({ frames := 4, cells := 2, slots := 12, locals := 57 } : Room) s m #[(.ref u0), (.ref u1), (.int (0 : Int32)), (.int (4 : Int32)), .null] below meth c s₁ [] 0 0 := Stand.of_body Bd
  have e0 : s₁.heap = h0 := by rw [← hh, Bd.state]; rfl
  have N0 := Fr.nil n0
  have pre0 : ∀ t, Steps p.tables e below (s₁.setTop (mkF m 0 #[rv u0, rv u1, iv (0 : Int32), iv (4 : Int32), .val .null, .unset] [])) t → Steps p.tables e below (s₁.setTop (entryFrame m #[(.ref u0), (.ref u1), (.int (0 : Int32)), (.int (4 : Int32)), .null] 6)) t := fun t k => castTop (ef_rmI4_4 m u0 u1 (0 : Int32) (4 : Int32)) k
  obtain ⟨T1, X1, e1, st1⟩ := initO X0 hx hZ hown (own_g hw 17 rfl) (own_g hw 18 rfl) (own_g hw 19 rfl) e0 (g := (mkF m 1 #[rv u0, rv u1, iv (0 : Int32), iv (4 : Int32), .val .null, .unset] [(.ref u0)])) rfl (by rw [hml]; rfl) rfl (hb hby d3_1) (by decide) (W := 0) (by show 2 * 0 + _ ≤ _; exact Nat.le_of_eq rfl) (by decide)
  obtain ⟨T2, X2, e2, st2⟩ := getS2 X1 hx hZ hown (host := "") (Or.inl (own_g hw 20 rfl)) Via.refl e1 P_S_String_COMPACT_STRINGS (g := (mkF m 27 #[rv u0, rv u1, iv (0 : Int32), iv (4 : Int32), .val .null, .unset] [])) rfl (hb hby d3_27)
  obtain ⟨_, _, ⟨T3, L3, k3, n3⟩, -, X3, ⟨Lc3, hQ3, l3, y3, z3⟩, st3⟩ := Jvm.LawKit.callS X2 hx (y := own_y6) hown (mvT hZ (own_g hw 21 rfl)) (mvT hZ (own_g hw 22 rfl)) (mvT hZ (own_g hw 23 rfl)) (mvT hZ (own_g hw 24 rfl)) (by decide) (backOf (W := 0) (rmC3_4 l Z a0 hw [] u1 kA c0 c1 c2 c3 h0 n0 Z0 P_S_StringUTF16__assertionsDisabled P_S_StringUTF16_HI_BYTE_SHIFT P_S_StringUTF16_LO_BYTE_SHIFT P_V_u1 hr0 hr1 hr2 hr3) hZ (own_g hw 24 rfl) (own_g hw 23 rfl) (by decide) (by decide)) (g := (mkF m 36 #[rv u0, rv u1, iv (0 : Int32), iv (4 : Int32), .val .null, .unset] [(.int (4 : Int32)), (.int (0 : Int32)), (.ref u1)])) rfl (by rw [hml]; rfl) (argsL := [(.ref u1), (.int (0 : Int32)), (.int (4 : Int32))]) (rest := []) (lenOf pd___CII__B rfl) rfl (by show 2 * 0 + _ ≤ _; exact Nat.le_of_eq rfl) (hb hby d3_36) (fun _ _ => ⟨rfl, e2, (by decide : 0 + 2 ≤ _), (by decide : 0 + 12 ≤ _)⟩)
  dsimp only [Pt.U, Pt.locs, Pt.cells, Pt.slots] at X3 l3 y3 z3 st3 hQ3
  subst l3 y3 z3
  obtain ⟨t_3, kt_3, z_3, vs_3, rfl, N3q, K3, sx3_0, f4, f5⟩ := hQ3
  have ot_3 : n0 ≤ t_3 := Nat.le_trans Z0 sx3_0
  have zt_3 : h0.size ≤ t_3 := Nat.le_trans (Keep.refl h0 [u0]).1 sx3_0
  have ne6 : u0 ≠ t_3 := Nat.ne_of_lt (Nat.lt_of_lt_of_le P_E_u0.lt sx3_0)
  have ne7 : u1 ≠ t_3 := Nat.ne_of_lt (Nat.lt_of_lt_of_le P_V_u1.lt sx3_0)
  have KK3 : Keep h0 T3.heap [u0] := Keep.trans (Keep.refl h0 [u0]) K3 all0
  have N3 := Fr.app N0 N3q
  have pre8 : ∀ t, Steps p.tables e below (T3.setTop (mkF m 39 #[rv u0, rv u1, iv (0 : Int32), iv (4 : Int32), .val .null, .unset] [(.ref t_3)])) t → Steps p.tables e below (s₁.setTop (entryFrame m #[(.ref u0), (.ref u1), (.int (0 : Int32)), (.int (4 : Int32)), .null] 6)) t := fun t kt => pre0 t (by
   refine XS.aloadN X0.here hx rfl (hb hby d3_0) rfl rfl ?_
   show Steps _ _ _ (s₁.setTop (mkF m 1 #[rv u0, rv u1, iv (0 : Int32), iv (4 : Int32), .val .null, .unset] [(.ref u0)])) _
   refine st1 _ ?_
   refine XS.iloadN X1.here hx rfl (hb hby d3_4) rfl ?_
   refine XS.ifYes X1.here hx rfl (pc0 := 5) (pc' := 27) rfl (hb hby d3_5) rfl ((if0 _ _).trans (feq (by decide : ¬ ((4 : Int32) = (0 : Int32)))).2) (by decide) (by decide) ?_
   refine st2 _ ?_
   refine XS.ifNo X2.here hx rfl (hb hby d3_30) rfl ((if0 _ _).trans (feq hz).1) ?_
   refine XS.aloadN X2.here hx rfl (hb hby d3_33) rfl rfl ?_
   refine XS.iloadN X2.here hx rfl (hb hby d3_34) rfl ?_
   refine XS.iloadN X2.here hx rfl (hb hby d3_35) rfl ?_
   show Steps _ _ _ (T2.setTop (mkF m 36 #[rv u0, rv u1, iv (0 : Int32), iv (4 : Int32), .val .null, .unset] [(.int (4 : Int32)), (.int (0 : Int32)), (.ref u1)])) _
   refine st3 _ ?_
   exact kt)
  rcases f5 with hd_ | hd_
  · subst hd_
    have f9 : n0 ≤ T3.heap.size := (Nat.le_trans Z0 K3.1)
    obtain ⟨_, _, ⟨T10, L10, k10, n10⟩, -, X10, ⟨Lc10, hQ10, l10, y10, z10⟩, st10⟩ := Jvm.LawKit.callS X3 hx (y := own_y7) hown (mvT hZ (own_g hw 48 rfl)) (mvT hZ (own_g hw 49 rfl)) (mvT hZ (own_g hw 23 rfl)) (mvT hZ (own_g hw 50 rfl)) (by decide) (backOf (W := 1) (rmCF4_4 l Z a0 hw [] t_3 kt_3 vs_3 T3.heap n0 f9 f4) hZ (own_g hw 50 rfl) (own_g hw 23 rfl) (by decide) (by decide)) (g := (mkF m 45 #[rv u0, rv u1, iv (0 : Int32), iv (4 : Int32), .val .null, rv t_3] [(.int (4 : Int32)), (.ref t_3), (.ref u0)])) rfl (by rw [hml]; rfl) (argsL := [(.ref t_3), (.int (4 : Int32))]) (rest := [(.ref u0)]) (lenOf pd___BI_B rfl) rfl (by show 2 * 0 + _ ≤ _; exact Nat.le_of_eq rfl) (hb hby d3_45) (fun _ _ => ⟨rfl, rfl, (by decide : 2 + 0 ≤ _), (by decide : 12 + 0 ≤ _)⟩)
    dsimp only [Pt.U, Pt.locs, Pt.cells, Pt.slots] at X10 l10 y10 z10 st10 hQ10
    subst l10 y10 z10
    obtain ⟨rfl, N10q, e10⟩ := hQ10
    have N10 := Fr.app N3 N10q
    have f11 : Exa Z T3.heap u0 "java/lang/String" := (P_E_u0.keep K3)
    have f12 : Fld Z T3.heap u0 "java/lang/String" "coder" "B" (.int (0 : Int32)) := (P_F_u0_String_coder.keep K3 nin0)
    obtain ⟨T13, h13, X13, e13, W13, st13⟩ := putFN X10 hx hZ hown (own_g hw 51 rfl) Via.refl e10 f12 f11 (Or.inr ⟨(own_g hw 52 rfl), rfl, hnm⟩) (own_g hw 7 rfl) (ty := .byte) (v' := (.int (0 : Int32))) (by decide) rfl rfl (g := (mkF m 48 #[rv u0, rv u1, iv (0 : Int32), iv (4 : Int32), .val .null, rv t_3] [(.int (0 : Int32)), (.ref u0)])) rfl rfl (hb hby d3_48)
    have f13_ : Fld Z h13 u0 "java/lang/String" "coder" "B" (.int (0 : Int32)) := f12.same W13
    have N14 := Fr.snoc X13 N10 g_u0
    have K15 : Keep h0 h13 [u0] := KK3.wr W13 (Or.inl (List.mem_of_getElem? (i := 0) rfl))
    have f16 : Exa Z h13 u0 "java/lang/String" := (f11.wr W13)
    have f17 : Fld Z h13 u0 "java/lang/String" "value" "[B" .null := ((P_F_u0_String_value.keep K3 nin0).other W13 (Or.inr (slot_ne (Or.inr (own_g hw 54 rfl)) (Or.inr (own_g hw 52 rfl)) (by decide) (t := (.array .byte)) (t' := .byte) (by decide) (by decide))))
    obtain ⟨T18, h18, X18, e18, W18, st18⟩ := putF X13 hx hZ hown (host := "") (Or.inl (own_g hw 53 rfl)) Via.refl e13 f17 f16 (Or.inr ⟨(own_g hw 54 rfl), rfl, hnm⟩) (own_g hw 7 rfl) (ty := (.array .byte)) (by decide) rfl rfl (g := (mkF m 54 #[rv u0, rv u1, iv (0 : Int32), iv (4 : Int32), .val .null, rv t_3] [(.ref t_3), (.ref u0)])) rfl rfl (hb hby d3_54)
    have f18_ : Fld Z h18 u0 "java/lang/String" "value" "[B" (.ref t_3) := f17.same W18
    have N19 := Fr.snoc X18 N14 g_u0
    have K20 : Keep h0 h18 [u0] := K15.wr W18 (Or.inl (List.mem_of_getElem? (i := 0) rfl))
    obtain ⟨fs, hr, hrun, hended, hW, hsame⟩ := X18.leave (v := none) (fun _ => rfl)
    have f21 : Exa Z h18 u0 "java/lang/String" := (f16.wr W18)
    have f22 : Fld Z h18 u0 "java/lang/String" "coder" "B" (.int (0 : Int32)) := (f13_.other W18 (Or.inr (slot_ne (Or.inr (own_g hw 52 rfl)) (Or.inr (own_g hw 54 rfl)) (by decide) (t := .byte) (t' := (.array .byte)) (by decide) (by decide))))
    have f23 : Arv Z h18 t_3 kt_3 .byte (4 : Int32) vs_3 (.int 0) := ((f4.other W13 (Ne.symm ne6)).other W18 (Ne.symm ne6))
    refine ⟨_, _, pre8 _ ?_, hrun, hended, _, _, rfl, ?_, ⟨_, rfl⟩, hW, hsame.mono (by decide) (by decide)⟩
    · refine XS.astore X3.here hx rfl (hb hby d3_39) rfl rfl (l' := #[rv u0, rv u1, iv (0 : Int32), iv (4 : Int32), .val .null, rv t_3]) rfl ?_
      refine XS.aloadN X3.here hx rfl (hb hby d3_41) rfl rfl ?_
      refine XS.aload X3.here hx rfl (hb hby d3_42) rfl rfl ?_
      refine XS.iloadN X3.here hx rfl (hb hby d3_44) rfl ?_
      show Steps _ _ _ (T3.setTop (mkF m 45 #[rv u0, rv u1, iv (0 : Int32), iv (4 : Int32), .val .null, rv t_3] [(.int (4 : Int32)), (.ref t_3), (.ref u0)])) _
      refine st10 _ ?_
      refine st13 _ ?_
      refine XS.aloadN X13.here hx rfl (hb hby d3_51) rfl rfl ?_
      refine XS.aload X13.here hx rfl (hb hby d3_52) rfl rfl ?_
      refine st18 _ ?_
      show Steps _ _ _ (T18.setTop (mkF m 57 #[rv u0, rv u1, iv (0 : Int32), iv (4 : Int32), .val .null, rv t_3] [])) _
      exact X18.returnOut hx Bd.returns (hb hby d3_57) hr
    · show Q_rmI4_4 Z u0 u1 kA c0 c1 c2 c3 zC h0 n0 _ T18.heap _
      rw [e18]
      exact ⟨t_3, kt_3, (4 : Int32), vs_3, (0 : Int32), rfl, N19, K20, zt_3, f21, f18_, f22, f23, (by decide), (by decide)⟩
  · subst hd_
    have f24 : n0 ≤ T3.heap.size := (Nat.le_trans Z0 K3.1)
    obtain ⟨_, _, ⟨T25, L25, k25, n25⟩, -, X25, ⟨Lc25, hQ25, l25, y25, z25⟩, st25⟩ := Jvm.LawKit.callS X3 hx (y := own_y7) hown (mvT hZ (own_g hw 48 rfl)) (mvT hZ (own_g hw 49 rfl)) (mvT hZ (own_g hw 23 rfl)) (mvT hZ (own_g hw 50 rfl)) (by decide) (backOf (W := 1) (rmCF4_8 l Z a0 hw [] t_3 kt_3 vs_3 T3.heap n0 f24 f4) hZ (own_g hw 50 rfl) (own_g hw 23 rfl) (by decide) (by decide)) (g := (mkF m 45 #[rv u0, rv u1, iv (0 : Int32), iv (4 : Int32), .val .null, rv t_3] [(.int (4 : Int32)), (.ref t_3), (.ref u0)])) rfl (by rw [hml]; rfl) (argsL := [(.ref t_3), (.int (4 : Int32))]) (rest := [(.ref u0)]) (lenOf pd___BI_B rfl) rfl (by show 2 * 0 + _ ≤ _; exact Nat.le_of_eq rfl) (hb hby d3_45) (fun _ _ => ⟨rfl, rfl, (by decide : 2 + 0 ≤ _), (by decide : 12 + 0 ≤ _)⟩)
    dsimp only [Pt.U, Pt.locs, Pt.cells, Pt.slots] at X25 l25 y25 z25 st25 hQ25
    subst l25 y25 z25
    obtain ⟨rfl, N25q, e25⟩ := hQ25
    have N25 := Fr.app N3 N25q
    have f26 : Exa Z T3.heap u0 "java/lang/String" := (P_E_u0.keep K3)
    have f27 : Fld Z T3.heap u0 "java/lang/String" "coder" "B" (.int (0 : Int32)) := (P_F_u0_String_coder.keep K3 nin0)
    obtain ⟨T28, h28, X28, e28, W28, st28⟩ := putFN X25 hx hZ hown (own_g hw 51 rfl) Via.refl e25 f27 f26 (Or.inr ⟨(own_g hw 52 rfl), rfl, hnm⟩) (own_g hw 7 rfl) (ty := .byte) (v' := (.int (1 : Int32))) (by decide) rfl rfl (g := (mkF m 48 #[rv u0, rv u1, iv (0 : Int32), iv (4 : Int32), .val .null, rv t_3] [(.int (1 : Int32)), (.ref u0)])) rfl rfl (hb hby d3_48)
    have f28_ : Fld Z h28 u0 "java/lang/String" "coder" "B" (.int (1 : Int32)) := f27.same W28
    have N29 := Fr.snoc X28 N25 g_u0
    have K30 : Keep h0 h28 [u0] := KK3.wr W28 (Or.inl (List.mem_of_getElem? (i := 0) rfl))
    have f31 : Exa Z h28 u0 "java/lang/String" := (f26.wr W28)
    have f32 : Fld Z h28 u0 "java/lang/String" "value" "[B" .null := ((P_F_u0_String_value.keep K3 nin0).other W28 (Or.inr (slot_ne (Or.inr (own_g hw 54 rfl)) (Or.inr (own_g hw 52 rfl)) (by decide) (t := (.array .byte)) (t' := .byte) (by decide) (by decide))))
    obtain ⟨T33, h33, X33, e33, W33, st33⟩ := putF X28 hx hZ hown (host := "") (Or.inl (own_g hw 53 rfl)) Via.refl e28 f32 f31 (Or.inr ⟨(own_g hw 54 rfl), rfl, hnm⟩) (own_g hw 7 rfl) (ty := (.array .byte)) (by decide) rfl rfl (g := (mkF m 54 #[rv u0, rv u1, iv (0 : Int32), iv (4 : Int32), .val .null, rv t_3] [(.ref t_3), (.ref u0)])) rfl rfl (hb hby d3_54)
    have f33_ : Fld Z h33 u0 "java/lang/String" "value" "[B" (.ref t_3) := f32.same W33
    have N34 := Fr.snoc X33 N29 g_u0
    have K35 : Keep h0 h33 [u0] := K30.wr W33 (Or.inl (List.mem_of_getElem? (i := 0) rfl))
    obtain ⟨fs, hr, hrun, hended, hW, hsame⟩ := X33.leave (v := none) (fun _ => rfl)
    have f36 : Exa Z h33 u0 "java/lang/String" := (f31.wr W33)
    have f37 : Fld Z h33 u0 "java/lang/String" "coder" "B" (.int (1 : Int32)) := (f28_.other W33 (Or.inr (slot_ne (Or.inr (own_g hw 52 rfl)) (Or.inr (own_g hw 54 rfl)) (by decide) (t := .byte) (t' := (.array .byte)) (by decide) (by decide))))
    have f38 : Arv Z h33 t_3 kt_3 .byte (8 : Int32) vs_3 (.int 0) := ((f4.other W28 (Ne.symm ne6)).other W33 (Ne.symm ne6))
    refine ⟨_, _, pre8 _ ?_, hrun, hended, _, _, rfl, ?_, ⟨_, rfl⟩, hW, hsame.mono (by decide) (by decide)⟩
    · refine XS.astore X3.here hx rfl (hb hby d3_39) rfl rfl (l' := #[rv u0, rv u1, iv (0 : Int32), iv (4 : Int32), .val .null, rv t_3]) rfl ?_
      refine XS.aloadN X3.here hx rfl (hb hby d3_41) rfl rfl ?_
      refine XS.aload X3.here hx rfl (hb hby d3_42) rfl rfl ?_
      refine XS.iloadN X3.here hx rfl (hb hby d3_44) rfl ?_
      show Steps _ _ _ (T3.setTop (mkF m 45 #[rv u0, rv u1, iv (0 : Int32), iv (4 : Int32), .val .null, rv t_3] [(.int (4 : Int32)), (.ref t_3), (.ref u0)])) _
      refine st25 _ ?_
      refine st28 _ ?_
      refine XS.aloadN X28.here hx rfl (hb hby d3_51) rfl rfl ?_
      refine XS.aload X28.here hx rfl (hb hby d3_52) rfl rfl ?_
      show Steps _ _ _ (T28.setTop (mkF m 54 #[rv u0, rv u1, iv (0 : Int32), iv (4 : Int32), .val .null, rv t_3] [(.ref t_3), (.ref u0)])) _
      refine st33 _ ?_
      show Steps _ _ _ (T33.setTop (mkF m 57 #[rv u0, rv u1, iv (0 : Int32), iv (4 : Int32), .val .null, rv t_3] [])) _
      exact X33.returnOut hx Bd.returns (hb hby d3_57) hr
    · show Q_rmI4_4 Z u0 u1 kA c0 c1 c2 c3 zC h0 n0 _ T33.heap _
      rw [e33]
      exact ⟨t_3, kt_3, (8 : Int32), vs_3, (1 : Int32), rfl, N34, K35, zt_3, f36, f33_, f37, f38, (by decide), (by decide)⟩

theorem ef_rmI1_4 (m : MethodId) (x0 : Addr) (x1 : Addr) : entryFrame m #[(.ref x0), (.ref x1)] 2 = mkF m 0 #[rv x0, rv x1] [] := by first | (simp [entryFrame, mkF, argsToLocals, Value.category]; done) | rfl
def Q_rmI1_4 (Z : State) (u0 : Addr) (u1 : Addr) (kA : ClassId) (c0 : Int32) (c1 : Int32) (c2 : Int32) (c3 : Int32) (zC : Int32) (h0 : Heap) (n0 : Nat) (v : Option Value) (h : Heap) (L : List Loc) : Prop := ∃ (t : Addr), ∃ (kt : ClassId), ∃ (z : Int32), ∃ (vs : List Value), ∃ (cd : Int32), (v = none ∧ Fr n0 L ∧ Keep h0 h [u0] ∧ h0.size ≤ t ∧ Exa Z h u0 "java/lang/String" ∧ Fld Z h u0 "java/lang/String" "value" "[B" (.ref t) ∧ Fld Z h u0 "java/lang/String" "coder" "B" (.int cd) ∧ Arv Z h t kt .byte z vs (.int 0) ∧ (z >>> (cd &&& 31)) = (4 : Int32) ∧ (cd = 0 ∨ cd = 1))
set_option maxRecDepth 65536 in
set_option maxHeartbeats 40000000 in
theorem rmI1_4 (l : Launch) (Z : State) (a0 : Array Value) (hw : ∀ d ∈ tables_1, d.before a0 Z = true) (ws : List Jvm.Cond) (u0 : Addr) (u1 : Addr) (kA : ClassId) (c0 : Int32) (c1 : Int32) (c2 : Int32) (c3 : Int32) (zC : Int32) (h0 : Heap) (n0 : Nat) (Z0 : n0 ≤ h0.size) (P_E_u0 : Exa Z h0 u0 "java/lang/String") (P_F_u0_String_value : Fld Z h0 u0 "java/lang/String" "value" "[B" .null) (P_F_u0_String_coder : Fld Z h0 u0 "java/lang/String" "coder" "B" (.int (0 : Int32))) (P_V_u1 : Arv Z h0 u1 kA .char (4 : Int32) [(.int c0), (.int c1), (.int c2), (.int c3)] (.int (0 : Int32))) (neA : u0 ≠ u1) (hr0 : ¬ c0 < 0 ∧ ¬ (65535 : Int32) < c0) (hr1 : ¬ c1 < 0 ∧ ¬ (65535 : Int32) < c1) (hr2 : ¬ c2 < 0 ∧ ¬ (65535 : Int32) < c2) (hr3 : ¬ c3 < 0 ∧ ¬ (65535 : Int32) < c3) (P_S_StringUTF16__assertionsDisabled : Sta Z h0 "java/lang/StringUTF16" "$assertionsDisabled" "Z" (.int (1 : Int32))) (P_S_StringUTF16_HI_BYTE_SHIFT : Sta Z h0 "java/lang/StringUTF16" "HI_BYTE_SHIFT" "I" (.int (0 : Int32))) (P_S_StringUTF16_LO_BYTE_SHIFT : Sta Z h0 "java/lang/StringUTF16" "LO_BYTE_SHIFT" "I" (.int (8 : Int32))) (P_S_String_COMPACT_STRINGS : Sta Z h0 "java/lang/String" "COMPACT_STRINGS" "Z" (.int zC)) (hz : ¬ (zC = (0 : Int32))) (g_u0 : n0 ≤ u0) :
    MetFree l own_y9 (head1 (Jvm.Cond.code own_y9 jdk_42_method_3_code 2 none :: ws) ({ frames := 5, cells := 2, slots := 12, locals := 74 } : Room)) (fun a U => a = #[(.ref u0), (.ref u1)] ∧ Z.Warmed39 U.vm ∧ U.heap = h0) (fun _ _ _ _ _ => True) (fun _ U o U' => ∃ v L, o = .returned v ∧ Q_rmI1_4 Z u0 u1 kA c0 c1 c2 c3 zC h0 n0 v U'.heap L ∧ FrameEnd U o U' L ({ frames := 5, cells := 2, slots := 12, locals := 74 } : Room).cells ({ frames := 5, cells := 2, slots := 12, locals := 74 } : Room).slots) := by
  refine MetFree.of_bodySF (plainFor_of_name pn_2) hisR ?_
  intro p e s m args below meth c s₁ Bd hml0 hP hK
  obtain ⟨rfl, hZ, hh⟩ := hP
  have hx := Bd.exec
  have hby := Bd.bytes
  have hml : c.maxLocals = 2 := hml0
  have hown : s.vm.findClass "java/lang/String" = some m.cls := findClass_of_methodNamed Bd.named
  have hnm := (name_of_methodNamed Bd.named Bd.method).1
  have X0 : Stand p l e ({ frames := 5, cells := 2, slots := 12, locals := 74 } : Room) s m #[(.ref u0), (.ref u1)] below meth c s₁ [] 0 0 := Stand.of_body Bd
  have e0 : s₁.heap = h0 := by rw [← hh, Bd.state]; rfl
  have N0 := Fr.nil n0
  have pre0 : ∀ t, Steps p.tables e below (s₁.setTop (mkF m 0 #[rv u0, rv u1] [])) t → Steps p.tables e below (s₁.setTop (entryFrame m #[(.ref u0), (.ref u1)] 2)) t := fun t k => castTop (ef_rmI1_4 m u0 u1) k
  obtain ⟨cl1, Ar1, qq1, S1, N1_, H1, G1⟩ := id P_V_u1
  obtain ⟨_, _, ⟨T2, L2, k2, n2⟩, -, X2, ⟨Lc2, hQ2, l2, y2, z2⟩, st2⟩ := X0.specialBack hx (y := own_y8) rfl hown (mvT hZ (own_g hw 13 rfl)) (mvT hZ (own_g hw 14 rfl)) (mvT hZ (own_g hw 16 rfl)) (by decide) (backOf (W := 0) (rmI4_4 l Z a0 hw [] u0 u1 kA c0 c1 c2 c3 zC h0 n0 Z0 P_E_u0 P_F_u0_String_value P_F_u0_String_coder P_V_u1 neA hr0 hr1 hr2 hr3 P_S_StringUTF16__assertionsDisabled P_S_StringUTF16_HI_BYTE_SHIFT P_S_StringUTF16_LO_BYTE_SHIFT P_S_String_COMPACT_STRINGS hz g_u0) hZ (own_g hw 16 rfl) (own_g hw 8 rfl) (by decide) (by decide)) (g := (mkF m 6 #[rv u0, rv u1] [.null, (.int (4 : Int32)), (.int (0 : Int32)), (.ref u1), (.ref u0)])) rfl (by rw [hml]; rfl) (Steps.refl _) (a := u0) (argsL := [(.ref u1), (.int (0 : Int32)), (.int (4 : Int32)), .null]) (rest := []) (lenOf pd___CIILjava_lang_Void__V rfl) rfl (by show 2 * 0 + _ ≤ _; exact Nat.le_of_eq rfl) (hb hby d2_6) (fun _ _ => ⟨rfl, e0, (by decide : 0 + 2 ≤ _), (by decide : 0 + 12 ≤ _)⟩)
  dsimp only [Pt.U, Pt.locs, Pt.cells, Pt.slots] at X2 l2 y2 z2 st2 hQ2
  subst l2 y2 z2
  obtain ⟨t_2, kt_2, z_2, vs_2, cd_2, rfl, N2q, K2, sx2_0, f3, f4, f5, f6, f7, f8⟩ := hQ2
  have ot_2 : n0 ≤ t_2 := Nat.le_trans Z0 sx2_0
  have zt_2 : h0.size ≤ t_2 := Nat.le_trans (Keep.refl h0 [u0]).1 sx2_0
  have ne9 : u0 ≠ t_2 := Nat.ne_of_lt (Nat.lt_of_lt_of_le P_E_u0.lt sx2_0)
  have ne10 : u1 ≠ t_2 := Nat.ne_of_lt (Nat.lt_of_lt_of_le P_V_u1.lt sx2_0)
  have KK2 : Keep h0 T2.heap [u0] := Keep.trans (Keep.refl h0 [u0]) K2 (allS (Or.inl (List.mem_of_getElem? (i := 0) rfl)) all0)
  have N2 := Fr.app N0 N2q
  obtain ⟨fs, hr, hrun, hended, hW, hsame⟩ := X2.leave (v := none) (fun _ => rfl)
  refine ⟨_, _, pre0 _ ?_, hrun, hended, _, _, rfl, ?_, ⟨_, rfl⟩, hW, hsame.mono (by decide) (by decide)⟩
  · refine XS.aloadN X0.here hx rfl (hb hby d2_0) rfl rfl ?_
    refine XS.aloadN X0.here hx rfl (hb hby d2_1) rfl rfl ?_
    refine XS.iconst X0.here hx rfl (hb hby d2_2) ?_
    refine XS.aloadN X0.here hx rfl (hb hby d2_3) rfl rfl ?_
    refine X0.arraylength hx (by rw [e0]; exact Ar1.1) (State.isArrayOf_alike hZ.alike Ar1.2.1) (g := (mkF m 4 #[rv u0, rv u1] [(.ref u1), (.int (0 : Int32)), (.ref u1), (.ref u0)])) rfl rfl (hb hby d2_4) _ ?_
    rw [len_of S1 N1_]
    refine XS.aconstNull X0.here hx rfl (hb hby d2_5) ?_
    show Steps _ _ _ (s₁.setTop (mkF m 6 #[rv u0, rv u1] [.null, (.int (4 : Int32)), (.int (0 : Int32)), (.ref u1), (.ref u0)])) _
    refine st2.trans ?_
    show Steps _ _ _ (T2.setTop (mkF m 9 #[rv u0, rv u1] [])) _
    exact X2.returnOut hx Bd.returns (hb hby d2_9) hr
  · show Q_rmI1_4 Z u0 u1 kA c0 c1 c2 c3 zC h0 n0 _ T2.heap _
    exact ⟨t_2, kt_2, z_2, vs_2, cd_2, rfl, N2, KK2, zt_2, f3, f4, f5, f6, f7, f8⟩

theorem ef_rmMk_4 (m : MethodId) (x0 : Int32) (x1 : Int32) (x2 : Int32) (x3 : Int32) (x4 : Int32) : entryFrame m #[(.int x0), (.int x1), (.int x2), (.int x3), (.int x4)] 5 = mkF m 0 #[iv x0, iv x1, iv x2, iv x3, iv x4] [] := by first | (simp [entryFrame, mkF, argsToLocals, Value.category]; done) | rfl
def Q_rmMk_4 (Z : State) (p1 : Int32) (p2 : Int32) (p3 : Int32) (p4 : Int32) (zC : Int32) (h0 : Heap) (n0 : Nat) (v : Option Value) (h : Heap) (L : List Loc) : Prop := ∃ (sg : Addr), ∃ (t : Addr), ∃ (kt : ClassId), ∃ (z : Int32), ∃ (vs : List Value), ∃ (cd : Int32), (v = (some (.ref sg)) ∧ Fr n0 L ∧ Keep h0 h [] ∧ h0.size ≤ sg ∧ h0.size ≤ t ∧ sg ≠ t ∧ Exa Z h sg "java/lang/String" ∧ Fld Z h sg "java/lang/String" "value" "[B" (.ref t) ∧ Fld Z h sg "java/lang/String" "coder" "B" (.int cd) ∧ Arv Z h t kt .byte z vs (.int 0) ∧ (z >>> (cd &&& 31)) = (4 : Int32) ∧ (cd = 0 ∨ cd = 1))
set_option maxRecDepth 65536 in
set_option maxHeartbeats 40000000 in
theorem rmMk_4 (l : Launch) (Z : State) (a0 : Array Value) (hw : ∀ d ∈ tables_1, d.before a0 Z = true) (ws : List Jvm.Cond) (p1 : Int32) (p2 : Int32) (p3 : Int32) (p4 : Int32) (zC : Int32) (h0 : Heap) (n0 : Nat) (Z0 : n0 ≤ h0.size) (P_S_StringUTF16__assertionsDisabled : Sta Z h0 "java/lang/StringUTF16" "$assertionsDisabled" "Z" (.int (1 : Int32))) (P_S_StringUTF16_HI_BYTE_SHIFT : Sta Z h0 "java/lang/StringUTF16" "HI_BYTE_SHIFT" "I" (.int (0 : Int32))) (P_S_StringUTF16_LO_BYTE_SHIFT : Sta Z h0 "java/lang/StringUTF16" "LO_BYTE_SHIFT" "I" (.int (8 : Int32))) (P_S_String_COMPACT_STRINGS : Sta Z h0 "java/lang/String" "COMPACT_STRINGS" "Z" (.int zC)) (hz : ¬ (zC = (0 : Int32))) :
    MetFree l own_y10 (head1 (Jvm.Cond.code own_y10 method_3_code 5 (some (.object "java/lang/String")) :: ws) ({ frames := 6, cells := 4, slots := 20, locals := 88 } : Room)) (fun a U => a = #[(.int (4 : Int32)), (.int p1), (.int p2), (.int p3), (.int p4)] ∧ Z.Warmed39 U.vm ∧ U.heap = h0) (fun _ _ _ _ _ => True) (fun _ U o U' => ∃ v L, o = .returned v ∧ Q_rmMk_4 Z p1 p2 p3 p4 zC h0 n0 v U'.heap L ∧ FrameEnd U o U' L ({ frames := 6, cells := 4, slots := 20, locals := 88 } : Room).cells ({ frames := 6, cells := 4, slots := 20, locals := 88 } : Room).slots) := by
  refine MetFree.of_bodySF (plainFor_of_name pn_1) hisR ?_
  intro p e s m args below meth c s₁ Bd hml0 hP hK
  obtain ⟨rfl, hZ, hh⟩ := hP
  have hx := Bd.exec
  have hby := Bd.bytes
  have hml : c.maxLocals = 5 := hml0
  have hown : s.vm.findClass "com/example/apq/apq/jpql/TokenEndPinLaw" = some m.cls := findClass_of_methodNamed Bd.named
  have hnm := (name_of_methodNamed Bd.named Bd.method).1
  have X0 : Stand p l e ({ frames := 6, cells := 4, slots := 20, locals := 88 } : Room) s m #[(.int (4 : Int32)), (.int p1), (.int p2), (.int p3), (.int p4)] below meth c s₁ [] 0 0 := Stand.of_body Bd
  have e0 : s₁.heap = h0 := by rw [← hh, Bd.state]; rfl
  have N0 := Fr.nil n0
  have pre0 : ∀ t, Steps p.tables e below (s₁.setTop (mkF m 0 #[iv (4 : Int32), iv p1, iv p2, iv p3, iv p4] [])) t → Steps p.tables e below (s₁.setTop (entryFrame m #[(.int (4 : Int32)), (.int p1), (.int p2), (.int p3), (.int p4)] 5)) t := fun t k => castTop (ef_rmMk_4 m (4 : Int32) p1 p2 p3 p4) k
  obtain ⟨T1, h1, X1, e1, E1, A1, D1, U1, st1⟩ := newO X0 hx hZ hown (own_g hw 6 rfl) (own_g hw 7 rfl) (own_g hw 8 rfl) e0 (g := (mkF m 87 #[iv (4 : Int32), iv p1, iv p2, iv p3, iv p4] [])) rfl (hb hby d1_87) (by decide) (by decide)
  obtain ⟨b1, g1⟩ : ∃ z, z = h0.size := ⟨_, rfl⟩
  rw [← g1] at A1 D1 U1 st1
  have o1 : n0 ≤ b1 := Nat.le_trans Z0 (Nat.le_of_eq g1.symm)
  have z1 : h0.size ≤ b1 := Nat.le_trans (Keep.refl h0 []).1 (Nat.le_of_eq g1.symm)
  have K1 : Keep h0 h1 [] := (Keep.refl h0 []).ext E1
  have f2 : Fld Z h1 b1 "java/lang/String" "coder" "B" (.int (0 : Int32)) := D1 (Or.inr (own_g hw 52 rfl)) (ty := .byte) (by decide)
  have f3 : Fld Z h1 b1 "java/lang/String" "value" "[B" .null := D1 (Or.inr (own_g hw 54 rfl)) (ty := (.array .byte)) (by decide)
  have f4 : n0 ≤ h1.size := (Nat.le_trans Z0 E1.1)
  obtain ⟨T5, h5, k5, X5, e5, E5, A5, st5⟩ := newP X1 hx hZ (own_g hw 9 rfl) e1 (g := (mkF m 92 #[iv (4 : Int32), iv p1, iv p2, iv p3, iv p4] [(.int (4 : Int32)), (.ref b1), (.ref b1)])) rfl (hb hby d1_92) rfl (by decide) (cap := 4) (by decide) (by decide) (by decide) (by decide)
  obtain ⟨b5, g5⟩ : ∃ z, z = h1.size := ⟨_, rfl⟩
  rw [← g5] at A5 st5
  have ne6 : b1 ≠ b5 := Nat.ne_of_lt (Nat.lt_of_lt_of_le A1.lt (Nat.le_of_eq g5.symm))
  have o5 : n0 ≤ b5 := Nat.le_trans f4 (Nat.le_of_eq g5.symm)
  have z5 : h0.size ≤ b5 := Nat.le_trans K1.1 (Nat.le_of_eq g5.symm)
  have K5 : Keep h0 h5 [] := K1.ext E5
  have V5 : Arv Z h5 b5 k5 .char (4 : Int32) [(.int (0 : Int32)), (.int (0 : Int32)), (.int (0 : Int32)), (.int (0 : Int32))] (.int (0 : Int32)) := (Arv.new A5 (by decide)).pad (pad_rep [] (.int (0 : Int32)) 4)
  obtain ⟨cl7, Ar7, qq7, S7, N7_, H7, G7⟩ := id V5
  have hin7 : ¬ ((0 : Int32) < 0 ∨ cl7.slots.size ≤ ((0 : Int32)).toNatClampNeg) := inb_of S7 ⟨by decide, by decide⟩
  obtain ⟨T8, h8, X8, e8, W8, st8⟩ := stC X5 hx hZ e5 Ar7 (j := (0 : Int32)) hin7 (g := (mkF m 97 #[iv (4 : Int32), iv p1, iv p2, iv p3, iv p4] [(.int p1), (.int (0 : Int32)), (.ref b5), (.ref b5), (.ref b1), (.ref b1)])) rfl rfl (hb hby d1_97)
  have V8 : Arv Z h8 b5 k5 .char (4 : Int32) [(.int (nar .char p1)), (.int (0 : Int32)), (.int (0 : Int32)), (.int (0 : Int32))] (.int (0 : Int32)) := Arv.set Ar7 qq7 S7 N7_ H7 G7 (fits_nar_char _) W8 0 rfl (Nat.le_of_ble_eq_true rfl)
  have N9 := Fr.snoc X8 N0 o5
  have K10 : Keep h0 h8 [] := K5.wr W8 (Or.inr z5)
  obtain ⟨cl11, Ar11, qq11, S11, N11_, H11, G11⟩ := id V8
  have hin11 : ¬ ((1 : Int32) < 0 ∨ cl11.slots.size ≤ ((1 : Int32)).toNatClampNeg) := inb_of S11 ⟨by decide, by decide⟩
  obtain ⟨T12, h12, X12, e12, W12, st12⟩ := stC X8 hx hZ e8 Ar11 (j := (1 : Int32)) hin11 (g := (mkF m 101 #[iv (4 : Int32), iv p1, iv p2, iv p3, iv p4] [(.int p2), (.int (1 : Int32)), (.ref b5), (.ref b5), (.ref b1), (.ref b1)])) rfl rfl (hb hby d1_101)
  have V12 : Arv Z h12 b5 k5 .char (4 : Int32) [(.int (nar .char p1)), (.int (nar .char p2)), (.int (0 : Int32)), (.int (0 : Int32))] (.int (0 : Int32)) := Arv.set Ar11 qq11 S11 N11_ H11 G11 (fits_nar_char _) W12 1 rfl (Nat.le_of_ble_eq_true rfl)
  have N13 := Fr.snoc X12 N9 o5
  have K14 : Keep h0 h12 [] := K10.wr W12 (Or.inr z5)
  obtain ⟨cl15, Ar15, qq15, S15, N15_, H15, G15⟩ := id V12
  have hin15 : ¬ ((2 : Int32) < 0 ∨ cl15.slots.size ≤ ((2 : Int32)).toNatClampNeg) := inb_of S15 ⟨by decide, by decide⟩
  obtain ⟨T16, h16, X16, e16, W16, st16⟩ := stC X12 hx hZ e12 Ar15 (j := (2 : Int32)) hin15 (g := (mkF m 105 #[iv (4 : Int32), iv p1, iv p2, iv p3, iv p4] [(.int p3), (.int (2 : Int32)), (.ref b5), (.ref b5), (.ref b1), (.ref b1)])) rfl rfl (hb hby d1_105)
  have V16 : Arv Z h16 b5 k5 .char (4 : Int32) [(.int (nar .char p1)), (.int (nar .char p2)), (.int (nar .char p3)), (.int (0 : Int32))] (.int (0 : Int32)) := Arv.set Ar15 qq15 S15 N15_ H15 G15 (fits_nar_char _) W16 2 rfl (Nat.le_of_ble_eq_true rfl)
  have N17 := Fr.snoc X16 N13 o5
  have K18 : Keep h0 h16 [] := K14.wr W16 (Or.inr z5)
  obtain ⟨cl19, Ar19, qq19, S19, N19_, H19, G19⟩ := id V16
  have hin19 : ¬ ((3 : Int32) < 0 ∨ cl19.slots.size ≤ ((3 : Int32)).toNatClampNeg) := inb_of S19 ⟨by decide, by decide⟩
  obtain ⟨T20, h20, X20, e20, W20, st20⟩ := stC X16 hx hZ e16 Ar19 (j := (3 : Int32)) hin19 (g := (mkF m 110 #[iv (4 : Int32), iv p1, iv p2, iv p3, iv p4] [(.int p4), (.int (3 : Int32)), (.ref b5), (.ref b5), (.ref b1), (.ref b1)])) rfl rfl (hb hby d1_110)
  have V20 : Arv Z h20 b5 k5 .char (4 : Int32) [(.int (nar .char p1)), (.int (nar .char p2)), (.int (nar .char p3)), (.int (nar .char p4))] (.int (0 : Int32)) := Arv.set Ar19 qq19 S19 N19_ H19 G19 (fits_nar_char _) W20 3 rfl (Nat.le_of_ble_eq_true rfl)
  have N21 := Fr.snoc X20 N17 o5
  have K22 : Keep h0 h20 [] := K18.wr W20 (Or.inr z5)
  have f23 : Exa Z h20 b1 "java/lang/String" := (((((A1.ext E5).wr W8).wr W12).wr W16).wr W20)
  have f24 : Fld Z h20 b1 "java/lang/String" "value" "[B" .null := (((((f3.ext E5).other W8 (Or.inl ne6)).other W12 (Or.inl ne6)).other W16 (Or.inl ne6)).other W20 (Or.inl ne6))
  have f25 : Fld Z h20 b1 "java/lang/String" "coder" "B" (.int (0 : Int32)) := (((((f2.ext E5).other W8 (Or.inl ne6)).other W12 (Or.inl ne6)).other W16 (Or.inl ne6)).other W20 (Or.inl ne6))
  have f26 : Sta Z h20 "java/lang/StringUTF16" "$assertionsDisabled" "Z" (.int (1 : Int32)) := ((((((P_S_StringUTF16__assertionsDisabled.ext E1).ext E5).wr W8).wr W12).wr W16).wr W20)
  have f27 : Sta Z h20 "java/lang/StringUTF16" "HI_BYTE_SHIFT" "I" (.int (0 : Int32)) := ((((((P_S_StringUTF16_HI_BYTE_SHIFT.ext E1).ext E5).wr W8).wr W12).wr W16).wr W20)
  have f28 : Sta Z h20 "java/lang/StringUTF16" "LO_BYTE_SHIFT" "I" (.int (8 : Int32)) := ((((((P_S_StringUTF16_LO_BYTE_SHIFT.ext E1).ext E5).wr W8).wr W12).wr W16).wr W20)
  have f29 : Sta Z h20 "java/lang/String" "COMPACT_STRINGS" "Z" (.int zC) := ((((((P_S_String_COMPACT_STRINGS.ext E1).ext E5).wr W8).wr W12).wr W16).wr W20)
  have f30 : n0 ≤ h20.size := (Nat.le_trans (Nat.le_trans (Nat.le_trans (Nat.le_trans (Nat.le_trans f4 E5.1) (Keep.of_wr W8).1) (Keep.of_wr W12).1) (Keep.of_wr W16).1) (Keep.of_wr W20).1)
  obtain ⟨_, _, ⟨T31, L31, k31, n31⟩, -, X31, ⟨Lc31, hQ31, l31, y31, z31⟩, st31⟩ := X20.specialBack hx (y := own_y9) rfl hown (mvT hZ (own_g hw 10 rfl)) (mvT hZ (own_g hw 11 rfl)) (mvT hZ (own_g hw 12 rfl)) (by decide) (backOf (W := 1) (rmI1_4 l Z a0 hw [] b1 b5 k5 (nar .char p1) (nar .char p2) (nar .char p3) (nar .char p4) zC h20 n0 f30 f23 f24 f25 V20 ne6 (own_nr p1) (own_nr p2) (own_nr p3) (own_nr p4) f26 f27 f28 f29 hz o1) hZ (own_g hw 12 rfl) (own_g hw 8 rfl) (by decide) (by decide)) (g := (mkF m 111 #[iv (4 : Int32), iv p1, iv p2, iv p3, iv p4] [(.ref b5), (.ref b1), (.ref b1)])) rfl (by rw [hml]; rfl) (Steps.refl _) (a := b1) (argsL := [(.ref b5)]) (rest := [(.ref b1)]) (lenOf pd___C_V rfl) rfl (by show 2 * 0 + _ ≤ _; exact Nat.le_of_eq rfl) (hb hby d1_111) (fun _ _ => ⟨rfl, e20, (by decide : 2 + 2 ≤ _), (by decide : 8 + 12 ≤ _)⟩)
  dsimp only [Pt.U, Pt.locs, Pt.cells, Pt.slots] at X31 l31 y31 z31 st31 hQ31
  subst l31 y31 z31
  obtain ⟨t_31, kt_31, z_31, vs_31, cd_31, rfl, N31q, K31, sx31_0, f32, f33, f34, f35, f36, f37⟩ := hQ31
  have ot_31 : n0 ≤ t_31 := Nat.le_trans f30 sx31_0
  have zt_31 : h0.size ≤ t_31 := Nat.le_trans K22.1 sx31_0
  have ne38 : b1 ≠ t_31 := Nat.ne_of_lt (Nat.lt_of_lt_of_le f23.lt sx31_0)
  have ne39 : b5 ≠ t_31 := Nat.ne_of_lt (Nat.lt_of_lt_of_le V20.lt sx31_0)
  have KK31 : Keep h0 T31.heap [] := Keep.trans K22 K31 (allS (Or.inr z1) all0)
  have N31 := Fr.app N21 N31q
  obtain ⟨fs, hr, hrun, hended, hW, hsame⟩ := X31.leave (v := some (.ref b1)) (fun h => by rw [Bd.returns] at h; cases h)
  refine ⟨_, _, pre0 _ ?_, hrun, hended, _, _, rfl, ?_, ⟨_, rfl⟩, hW, hsame.mono (by decide) (by decide)⟩
  · refine XS.iloadN X0.here hx rfl (hb hby d1_0) rfl ?_
    refine XS.ifYes X0.here hx rfl (pc0 := 1) (pc' := 15) rfl (hb hby d1_1) rfl ((if0 _ _).trans (feq (by decide : ¬ ((4 : Int32) = (0 : Int32)))).2) (by decide) (by decide) ?_
    refine XS.iloadN X0.here hx rfl (hb hby d1_15) rfl ?_
    refine XS.iconst X0.here hx rfl (hb hby d1_16) ?_
    refine XS.icmpYes X0.here hx rfl (pc0 := 17) (pc' := 35) rfl (hb hby d1_17) rfl (feq (by decide : ¬ ((4 : Int32) = (1 : Int32)))).2 (by decide) (by decide) ?_
    refine XS.iloadN X0.here hx rfl (hb hby d1_35) rfl ?_
    refine XS.iconst X0.here hx rfl (hb hby d1_36) ?_
    refine XS.icmpYes X0.here hx rfl (pc0 := 37) (pc' := 59) rfl (hb hby d1_37) rfl (feq (by decide : ¬ ((4 : Int32) = (2 : Int32)))).2 (by decide) (by decide) ?_
    refine XS.iloadN X0.here hx rfl (hb hby d1_59) rfl ?_
    refine XS.iconst X0.here hx rfl (hb hby d1_60) ?_
    refine XS.icmpYes X0.here hx rfl (pc0 := 61) (pc' := 87) rfl (hb hby d1_61) rfl (feq (by decide : ¬ ((4 : Int32) = (3 : Int32)))).2 (by decide) (by decide) ?_
    refine st1 _ ?_
    refine XS.dup X1.here hx rfl (hb hby d1_90) rfl rfl ?_
    refine XS.iconst X1.here hx rfl (hb hby d1_91) ?_
    refine st5 _ ?_
    refine XS.dup X5.here hx rfl (hb hby d1_94) rfl rfl ?_
    refine XS.iconst X5.here hx rfl (hb hby d1_95) ?_
    refine XS.iloadN X5.here hx rfl (hb hby d1_96) rfl ?_
    refine st8 _ ?_
    refine XS.dup X8.here hx rfl (hb hby d1_98) rfl rfl ?_
    refine XS.iconst X8.here hx rfl (hb hby d1_99) ?_
    refine XS.iloadN X8.here hx rfl (hb hby d1_100) rfl ?_
    refine st12 _ ?_
    show Steps _ _ _ (T12.setTop (mkF m 102 #[iv (4 : Int32), iv p1, iv p2, iv p3, iv p4] [(.ref b5), (.ref b1), (.ref b1)])) _
    refine XS.dup X12.here hx rfl (hb hby d1_102) rfl rfl ?_
    refine XS.iconst X12.here hx rfl (hb hby d1_103) ?_
    refine XS.iloadN X12.here hx rfl (hb hby d1_104) rfl ?_
    refine st16 _ ?_
    refine XS.dup X16.here hx rfl (hb hby d1_106) rfl rfl ?_
    refine XS.iconst X16.here hx rfl (hb hby d1_107) ?_
    refine XS.iload X16.here hx rfl (hb hby d1_108) rfl ?_
    refine st20 _ ?_
    show Steps _ _ _ (T20.setTop (mkF m 111 #[iv (4 : Int32), iv p1, iv p2, iv p3, iv p4] [(.ref b5), (.ref b1), (.ref b1)])) _
    refine st31.trans ?_
    show Steps _ _ _ (T31.setTop (mkF m 114 #[iv (4 : Int32), iv p1, iv p2, iv p3, iv p4] [(.ref b1)])) _
    exact retOut X31 hx Bd.returns rfl (Or.inr (Or.inr (Or.inr (Or.inr ⟨rfl, rfl, rfl⟩)))) (hb hby d1_114) hr
  · show Q_rmMk_4 Z p1 p2 p3 p4 zC h0 n0 _ T31.heap _
    exact ⟨b1, t_31, kt_31, z_31, vs_31, cd_31, rfl, N31, KK31, z1, zt_31, ne38, f32, f33, f34, f35, f36, f37⟩

theorem ef_rmI4_0 (m : MethodId) (x0 : Addr) (x1 : Addr) (x2 : Int32) (x3 : Int32) : entryFrame m #[(.ref x0), (.ref x1), (.int x2), (.int x3), .null] 6 = mkF m 0 #[rv x0, rv x1, iv x2, iv x3, .val .null, .unset] [] := by first | (simp [entryFrame, mkF, argsToLocals, Value.category]; done) | rfl
def Q_rmI4_0 (Z : State) (u0 : Addr) (u1 : Addr) (h0 : Heap) (n0 : Nat) (v : Option Value) (h : Heap) (L : List Loc) : Prop := ∃ (t : Jvm.Addr), ∃ (kt : ClassId), ∃ (vs : List Value), (v = none ∧ Fr n0 L ∧ Keep h0 h [u0] ∧ Exa Z h u0 "java/lang/String" ∧ Fld Z h u0 "java/lang/String" "value" "[B" (.ref t) ∧ Fld Z h u0 "java/lang/String" "coder" "B" (.int (0 : Int32)) ∧ Arv Z h t kt .byte (0 : Int32) vs (.int 0))
set_option maxRecDepth 65536 in
set_option maxHeartbeats 40000000 in
theorem rmI4_0 (l : Launch) (Z : State) (a0 : Array Value) (hw : ∀ d ∈ tables_1, d.before a0 Z = true) (ws : List Jvm.Cond) (u0 : Addr) (u1 : Addr) (h0 : Heap) (n0 : Nat) (Z0 : n0 ≤ h0.size) (P_E_u0 : Exa Z h0 u0 "java/lang/String") (P_F_u0_String_value : Fld Z h0 u0 "java/lang/String" "value" "[B" .null) (P_F_u0_String_coder : Fld Z h0 u0 "java/lang/String" "coder" "B" (.int (0 : Int32))) (g_u0 : n0 ≤ u0) :
    MetFree l own_y8 (head1 (Jvm.Cond.code own_y8 jdk_42_method_149_code 6 none :: ws) ({ frames := 1, cells := 4, slots := 8, locals := 12 } : Room)) (fun a U => a = #[(.ref u0), (.ref u1), (.int (0 : Int32)), (.int (0 : Int32)), .null] ∧ Z.Warmed39 U.vm ∧ U.heap = h0 ∧ CHv Z own_EL U.vm h0) (fun _ _ _ _ _ => True) (fun _ U o U' => ∃ v L, o = .returned v ∧ Q_rmI4_0 Z u0 u1 h0 n0 v U'.heap L ∧ CHr Z own_EL U.vm U.heap U'.vm U'.heap ∧ ReturnedEndW U o U' L ({ frames := 1, cells := 4, slots := 8, locals := 12 } : Room).cells ({ frames := 1, cells := 4, slots := 8, locals := 12 } : Room).slots) := by
  refine MetFree.of_bodySF (plainFor_of_name pn_3) hisR ?_
  intro p e s m args below meth c s₁ Bd hml0 hP hK
  obtain ⟨rfl, hZ, hh, hCH⟩ := hP
  have hx := Bd.exec
  have hby := Bd.bytes
  have hml : c.maxLocals = 6 := hml0
  have hown : s.vm.findClass "java/lang/String" = some m.cls := findClass_of_methodNamed Bd.named
  have hnm := (name_of_methodNamed Bd.named Bd.method).1
  have X0 : Stand p l e ({ frames := 1, cells := 4, slots := 8, locals := 12 } : Room) s m #[(.ref u0), (.ref u1), (.int (0 : Int32)), (.int (0 : Int32)), .null] below meth c s₁ [] 0 0 := Stand.of_body Bd
  have e0 : s₁.heap = h0 := by rw [← hh, Bd.state]; rfl
  have N0 := Fr.nil n0
  have pre0 : ∀ t, Steps p.tables e below (s₁.setTop (mkF m 0 #[rv u0, rv u1, iv (0 : Int32), iv (0 : Int32), .val .null, .unset] [])) t → Steps p.tables e below (s₁.setTop (entryFrame m #[(.ref u0), (.ref u1), (.int (0 : Int32)), (.int (0 : Int32)), .null] 6)) t := fun t k => castTop (ef_rmI4_0 m u0 u1 (0 : Int32) (0 : Int32)) k
  have hEL : EW Z a0 own_EL := own_hEL hw
  have wS : ∀ a ∈ Bundle.stringAtoms, a.before a0 Z = true := fun d hd => hw d ((by decide +kernel : ∀ d ∈ Bundle.stringAtoms, d ∈ tables_1) d hd)
  have CH0 : CHr Z own_EL s.vm h0 s.vm h0 := CHr.refl hCH
  have hS0 : s.Since s.vm h0.size := (State.WarmedH.refl s).since _
  have Y_u0 : Safe Z own_EL s.vm h0 u0 := own_safeN hZ.alike P_E_u0 P_F_u0_String_value
  have pre1 : ∀ t, Steps p.tables e below (s₁.setTop (mkF m 1 #[rv u0, rv u1, iv (0 : Int32), iv (0 : Int32), .val .null, .unset] [(.ref u0)])) t → Steps p.tables e below (s₁.setTop (entryFrame m #[(.ref u0), (.ref u1), (.int (0 : Int32)), (.int (0 : Int32)), .null] 6)) t := fun t kt => pre0 t (by
   refine XS.aloadN X0.here hx rfl (hb hby d3_0) rfl rfl ?_
   exact kt)
  obtain ⟨T2, X2, e2, st2⟩ := initO X0 hx hZ hown (own_g hw 17 rfl) (own_g hw 18 rfl) (own_g hw 19 rfl) e0 (g := (mkF m 1 #[rv u0, rv u1, iv (0 : Int32), iv (0 : Int32), .val .null, .unset] [(.ref u0)])) rfl (by rw [hml]; rfl) rfl (hb hby d3_1) (by decide) (W := 0) (by show 2 * 0 + _ ≤ _; exact Nat.le_of_eq rfl) (by decide)
  have pre3 : ∀ t, Steps p.tables e below (T2.setTop (mkF m 9 #[rv u0, rv u1, iv (0 : Int32), iv (0 : Int32), .val .null, .unset] [(.ref u0)])) t → Steps p.tables e below (s₁.setTop (entryFrame m #[(.ref u0), (.ref u1), (.int (0 : Int32)), (.int (0 : Int32)), .null] 6)) t := fun t kt => pre1 t (by
   show Steps _ _ _ (s₁.setTop (mkF m 1 #[rv u0, rv u1, iv (0 : Int32), iv (0 : Int32), .val .null, .unset] [(.ref u0)])) _
   refine st2 _ ?_
   refine XS.iloadN X2.here hx rfl (hb hby d3_4) rfl ?_
   refine XS.ifNo X2.here hx rfl (hb hby d3_5) rfl ((if0 _ _).trans (teq (by decide : (0 : Int32) = (0 : Int32))).2) ?_
   refine XS.aloadN X2.here hx rfl (hb hby d3_8) rfl rfl ?_
   exact kt)
  obtain ⟨a4, T4, h4, kk4, b4, kc4, X4, e4, E4, hS4, hk4, hZ4, hown4, Ea4, Ca4, Va4, Aa4, la4, lb4, CHq4, Lt4, nx4, st4⟩ := ldcCH (vs := []) (z := (0 : Int32)) (show Stand p l e ({ frames := 1, cells := 4, slots := 8, locals := 12 } : Room) (s.setVm s.vm) m _ below meth c _ _ _ _ from X2) hx hZ hown (own_g hw 94 rfl) wS e2 hS0 (Nat.le_refl h0.size) hEL (List.mem_of_getElem? (i := 0) rfl) CH0.1 ⟨by decide, rfl⟩ (by decide) rfl (g := (mkF m 9 #[rv u0, rv u1, iv (0 : Int32), iv (0 : Int32), .val .null, .unset] [(.ref u0)])) rfl (hb hby d3_9) (n := 0) (by decide) (by decide) (by decide) (by decide)
  have K4 : Keep h0 h4 [u0] := (Keep.refl h0 [u0]).ext E4
  have CH5 : CHr Z own_EL s.vm h0 T4.vm h4 := CH0.trans CHq4
  have Yr6 : Safe Z own_EL T4.vm h4 u0 := CHr.safe CHq4 P_E_u0.lt Y_u0
  obtain ⟨T7, X7, e7, st7⟩ := getF X4 hx hZ4 hown4 (host := "") (Or.inl (own_g hw 53 rfl)) Via.refl e4 Va4 (g := (mkF m 11 #[rv u0, rv u1, iv (0 : Int32), iv (0 : Int32), .val .null, .unset] [(.ref a4), (.ref u0)])) rfl rfl (hb hby d3_11)
  have f8 : Exa Z h4 u0 "java/lang/String" := (P_E_u0.ext E4)
  have f9 : Fld Z h4 u0 "java/lang/String" "value" "[B" .null := (P_F_u0_String_value.ext E4)
  obtain ⟨T10, h10, X10, e10, W10, st10⟩ := putF X7 hx hZ4 hown4 (host := "") (Or.inl (own_g hw 53 rfl)) Via.refl e7 f9 f8 (Or.inr ⟨(own_g hw 54 rfl), rfl, hnm⟩) (own_g hw 7 rfl) (ty := (.array .byte)) (by decide) rfl rfl (g := (mkF m 14 #[rv u0, rv u1, iv (0 : Int32), iv (0 : Int32), .val .null, .unset] [(.ref b4), (.ref u0)])) rfl rfl (hb hby d3_14)
  have CH11 : CHr Z own_EL s.vm h0 T4.vm h10 := CH5.trans (CHr.wr W10 Yr6 CH5.1)
  have f10_ : Fld Z h10 u0 "java/lang/String" "value" "[B" (.ref b4) := f9.same W10
  have N12 := Fr.snoc X10 N0 g_u0
  have K13 : Keep h0 h10 [u0] := K4.wr W10 (Or.inl (List.mem_of_getElem? (i := 0) rfl))
  have pre14 : ∀ t, Steps p.tables e below (T10.setTop (mkF m 18 #[rv u0, rv u1, iv (0 : Int32), iv (0 : Int32), .val .null, .unset] [(.ref u0)])) t → Steps p.tables e below (s₁.setTop (entryFrame m #[(.ref u0), (.ref u1), (.int (0 : Int32)), (.int (0 : Int32)), .null] 6)) t := fun t kt => pre3 t (by
   refine st4 _ ?_
   refine st7 _ ?_
   refine st10 _ ?_
   refine XS.aloadN X10.here hx rfl (hb hby d3_17) rfl rfl ?_
   exact kt)
  have f15 : kk4 ≤ h10.size := (Nat.le_trans hk4 (Keep.of_wr W10).1)
  have f16 : Safe Z own_EL T4.vm h10 u0 := (Safe.wr W10 Yr6 CH5.1 Yr6)
  have f17 : Exa Z h10 u0 "java/lang/String" := (f8.wr W10)
  obtain ⟨a18, T18, h18, kk18, b18, kc18, X18, e18, E18, hS18, hk18, hZ18, hown18, Ea18, Ca18, Va18, Aa18, la18, lb18, CHq18, Lt18, nx18, st18⟩ := ldcCH (vs := []) (z := (0 : Int32)) (show Stand p l e ({ frames := 1, cells := 4, slots := 8, locals := 12 } : Room) (s.setVm T4.vm) m _ below meth c _ _ _ _ from X10) hx hZ4 hown4 (own_g hw 94 rfl) wS e10 hS4 f15 hEL (List.mem_of_getElem? (i := 0) rfl) CH11.1 ⟨by decide, rfl⟩ (by decide) rfl (g := (mkF m 18 #[rv u0, rv u1, iv (0 : Int32), iv (0 : Int32), .val .null, .unset] [(.ref u0)])) rfl (hb hby d3_18) (n := 0) (by decide) (by decide) (by decide) (by decide)
  have K18 : Keep h0 h18 [u0] := K13.ext E18
  have CH19 : CHr Z own_EL s.vm h0 T18.vm h18 := CH11.trans CHq18
  have Yr20 : Safe Z own_EL T18.vm h18 u0 := CHr.safe CHq18 f17.lt f16
  obtain ⟨T21, X21, e21, st21⟩ := getF X18 hx hZ18 hown18 (host := "") (Or.inl (own_g hw 51 rfl)) Via.refl e18 Ca18 (g := (mkF m 20 #[rv u0, rv u1, iv (0 : Int32), iv (0 : Int32), .val .null, .unset] [(.ref a18), (.ref u0)])) rfl rfl (hb hby d3_20)
  have f22 : Exa Z h18 u0 "java/lang/String" := (f17.ext E18)
  have f23 : Fld Z h18 u0 "java/lang/String" "coder" "B" (.int (0 : Int32)) := (((P_F_u0_String_coder.ext E4).other W10 (Or.inr (slot_ne (Or.inr (own_g hw 52 rfl)) (Or.inr (own_g hw 54 rfl)) (by decide) (t := .byte) (t' := (.array .byte)) (by decide) (by decide)))).ext E18)
  obtain ⟨T24, h24, X24, e24, W24, st24⟩ := putFN X21 hx hZ18 hown18 (own_g hw 51 rfl) Via.refl e21 f23 f22 (Or.inr ⟨(own_g hw 52 rfl), rfl, hnm⟩) (own_g hw 7 rfl) (ty := .byte) (v' := (.int (0 : Int32))) (by decide) rfl rfl (g := (mkF m 23 #[rv u0, rv u1, iv (0 : Int32), iv (0 : Int32), .val .null, .unset] [(.int (0 : Int32)), (.ref u0)])) rfl rfl (hb hby d3_23)
  have CH25 : CHr Z own_EL s.vm h0 T18.vm h24 := CH19.trans (CHr.wr W24 Yr20 CH19.1)
  have f24_ : Fld Z h24 u0 "java/lang/String" "coder" "B" (.int (0 : Int32)) := f23.same W24
  have N26 := Fr.snoc X24 N12 g_u0
  have K27 : Keep h0 h24 [u0] := K18.wr W24 (Or.inl (List.mem_of_getElem? (i := 0) rfl))
  obtain ⟨fs, hr, hrun, hended, hW, hsame⟩ := X24.leave (v := none) (fun _ => rfl)
  have f28 : Exa Z h24 u0 "java/lang/String" := (f22.wr W24)
  have f29 : Fld Z h24 u0 "java/lang/String" "value" "[B" (.ref b4) := ((f10_.ext E18).other W24 (Or.inr (slot_ne (Or.inr (own_g hw 54 rfl)) (Or.inr (own_g hw 52 rfl)) (by decide) (t := (.array .byte)) (t' := .byte) (by decide) (by decide))))
  have f30 : Arv Z h24 b4 kc4 .byte (0 : Int32) [] (.int 0) := (((Aa4.other W10 (Ne.symm (nx4 u0 Yr6).2)).ext E18).other W24 (Ne.symm (nx4 u0 Yr6).2))
  have f31 : kk18 ≤ h24.size := (Nat.le_trans hk18 (Keep.of_wr W24).1)
  have qE := hS18.ended (c := ({ frames := 1, cells := 4, slots := 8, locals := 12 } : Room).cells) (k := ({ frames := 1, cells := 4, slots := 8, locals := 12 } : Room).slots) hW (show _ ≤ T24.heap.size from (by rw [e24]; exact f31)) (hsame.mono (by decide) (by decide))
  have qC : CHr Z own_EL s.vm s.heap T24.vm T24.heap := by rw [hh, e24]; exact CH25.trans (CHv.at (show Stand p l e ({ frames := 1, cells := 4, slots := 8, locals := 12 } : Room) (s.setVm T18.vm) m _ below meth c _ _ _ _ from X24) hZ18 hEL CH25.1)
  refine ⟨_, _, pre14 _ ?_, hrun, hended, _, _, rfl, ?_, qC, ⟨_, rfl⟩, qE.1, qE.2.1, qE.2.2⟩
  · refine st18 _ ?_
    refine st21 _ ?_
    refine st24 _ ?_
    show Steps _ _ _ (T24.setTop (mkF m 26 #[rv u0, rv u1, iv (0 : Int32), iv (0 : Int32), .val .null, .unset] [])) _
    exact X24.returnOut hx Bd.returns (hb hby d3_26) hr
  · show Q_rmI4_0 Z u0 u1 h0 n0 _ T24.heap _
    rw [e24]
    exact ⟨b4, kc4, [], rfl, N26, K27, f28, f29, f24_, f30⟩

theorem ef_rmI1_0 (m : MethodId) (x0 : Addr) (x1 : Addr) : entryFrame m #[(.ref x0), (.ref x1)] 2 = mkF m 0 #[rv x0, rv x1] [] := by first | (simp [entryFrame, mkF, argsToLocals, Value.category]; done) | rfl
def Q_rmI1_0 (Z : State) (u0 : Addr) (u1 : Addr) (kA : ClassId) (h0 : Heap) (n0 : Nat) (v : Option Value) (h : Heap) (L : List Loc) : Prop := ∃ (t : Jvm.Addr), ∃ (kt : ClassId), ∃ (vs : List Value), (v = none ∧ Fr n0 L ∧ Keep h0 h [u0] ∧ Exa Z h u0 "java/lang/String" ∧ Fld Z h u0 "java/lang/String" "value" "[B" (.ref t) ∧ Fld Z h u0 "java/lang/String" "coder" "B" (.int (0 : Int32)) ∧ Arv Z h t kt .byte (0 : Int32) vs (.int 0))
set_option maxRecDepth 65536 in
set_option maxHeartbeats 40000000 in
theorem rmI1_0 (l : Launch) (Z : State) (a0 : Array Value) (hw : ∀ d ∈ tables_1, d.before a0 Z = true) (ws : List Jvm.Cond) (u0 : Addr) (u1 : Addr) (kA : ClassId) (h0 : Heap) (n0 : Nat) (Z0 : n0 ≤ h0.size) (P_E_u0 : Exa Z h0 u0 "java/lang/String") (P_F_u0_String_value : Fld Z h0 u0 "java/lang/String" "value" "[B" .null) (P_F_u0_String_coder : Fld Z h0 u0 "java/lang/String" "coder" "B" (.int (0 : Int32))) (P_V_u1 : Arv Z h0 u1 kA .char (0 : Int32) [] (.int (0 : Int32))) (g_u0 : n0 ≤ u0) :
    MetFree l own_y9 (head1 (Jvm.Cond.code own_y9 jdk_42_method_3_code 2 none :: ws) ({ frames := 2, cells := 4, slots := 8, locals := 29 } : Room)) (fun a U => a = #[(.ref u0), (.ref u1)] ∧ Z.Warmed39 U.vm ∧ U.heap = h0 ∧ CHv Z own_EL U.vm h0) (fun _ _ _ _ _ => True) (fun _ U o U' => ∃ v L, o = .returned v ∧ Q_rmI1_0 Z u0 u1 kA h0 n0 v U'.heap L ∧ CHr Z own_EL U.vm U.heap U'.vm U'.heap ∧ ReturnedEndW U o U' L ({ frames := 2, cells := 4, slots := 8, locals := 29 } : Room).cells ({ frames := 2, cells := 4, slots := 8, locals := 29 } : Room).slots) := by
  refine MetFree.of_bodySF (plainFor_of_name pn_2) hisR ?_
  intro p e s m args below meth c s₁ Bd hml0 hP hK
  obtain ⟨rfl, hZ, hh, hCH⟩ := hP
  have hx := Bd.exec
  have hby := Bd.bytes
  have hml : c.maxLocals = 2 := hml0
  have hown : s.vm.findClass "java/lang/String" = some m.cls := findClass_of_methodNamed Bd.named
  have hnm := (name_of_methodNamed Bd.named Bd.method).1
  have X0 : Stand p l e ({ frames := 2, cells := 4, slots := 8, locals := 29 } : Room) s m #[(.ref u0), (.ref u1)] below meth c s₁ [] 0 0 := Stand.of_body Bd
  have e0 : s₁.heap = h0 := by rw [← hh, Bd.state]; rfl
  have N0 := Fr.nil n0
  have pre0 : ∀ t, Steps p.tables e below (s₁.setTop (mkF m 0 #[rv u0, rv u1] [])) t → Steps p.tables e below (s₁.setTop (entryFrame m #[(.ref u0), (.ref u1)] 2)) t := fun t k => castTop (ef_rmI1_0 m u0 u1) k
  have hEL : EW Z a0 own_EL := own_hEL hw
  have wS : ∀ a ∈ Bundle.stringAtoms, a.before a0 Z = true := fun d hd => hw d ((by decide +kernel : ∀ d ∈ Bundle.stringAtoms, d ∈ tables_1) d hd)
  have CH0 : CHr Z own_EL s.vm h0 s.vm h0 := CHr.refl hCH
  have hS0 : s.Since s.vm h0.size := (State.WarmedH.refl s).since _
  obtain ⟨cl1, Ar1, qq1, S1, N1_, H1, G1⟩ := id P_V_u1
  have pre2 : ∀ t, Steps p.tables e below (s₁.setTop (mkF m 6 #[rv u0, rv u1] [.null, (.int (0 : Int32)), (.int (0 : Int32)), (.ref u1), (.ref u0)])) t → Steps p.tables e below (s₁.setTop (entryFrame m #[(.ref u0), (.ref u1)] 2)) t := fun t kt => pre0 t (by
   refine XS.aloadN X0.here hx rfl (hb hby d2_0) rfl rfl ?_
   refine XS.aloadN X0.here hx rfl (hb hby d2_1) rfl rfl ?_
   refine XS.iconst X0.here hx rfl (hb hby d2_2) ?_
   refine XS.aloadN X0.here hx rfl (hb hby d2_3) rfl rfl ?_
   refine X0.arraylength hx (by rw [e0]; exact Ar1.1) (State.isArrayOf_alike hZ.alike Ar1.2.1) (g := (mkF m 4 #[rv u0, rv u1] [(.ref u1), (.int (0 : Int32)), (.ref u1), (.ref u0)])) rfl rfl (hb hby d2_4) _ ?_
   rw [len_of S1 N1_]
   refine XS.aconstNull X0.here hx rfl (hb hby d2_5) ?_
   exact kt)
  obtain ⟨_, _, ⟨T3, L3, k3, n3⟩, -, Xw3, hSw3, gr3, ⟨Lc3, hQ3, l3, y3, z3, CHq3⟩, st3⟩ := X0.specialBackS hx (y := own_y8) rfl hown (mvT hZ (own_g hw 13 rfl)) (mvT hZ (own_g hw 14 rfl)) (mvT hZ (own_g hw 16 rfl)) (by decide) (backOfSH (W := 0) (rmI4_0 l Z a0 hw [] u0 u1 h0 n0 Z0 P_E_u0 P_F_u0_String_value P_F_u0_String_coder g_u0) hZ (own_g hw 16 rfl) (own_g hw 8 rfl) (by decide) (by decide) hEL CH0.1) (g := (mkF m 6 #[rv u0, rv u1] [.null, (.int (0 : Int32)), (.int (0 : Int32)), (.ref u1), (.ref u0)])) rfl (by rw [hml]; rfl) (Steps.refl _) (a := u0) (argsL := [(.ref u1), (.int (0 : Int32)), (.int (0 : Int32)), .null]) (rest := []) (lenOf pd___CIILjava_lang_Void__V rfl) rfl (by show 2 * 0 + _ ≤ _; exact Nat.le_of_eq rfl) (hb hby d2_6) (fun _ _ => ⟨rfl, e0, (by decide : 0 + 4 ≤ _), (by decide : 0 + 8 ≤ _)⟩)
  dsimp only [Pt.U, Pt.locs, Pt.cells, Pt.slots] at Xw3 hSw3 gr3 l3 y3 z3 st3 hQ3 CHq3
  subst l3 y3 z3
  obtain ⟨X3, hS3, hZ3, hown3⟩ := rebS hS0 (by rw [e0]; exact (Nat.le_refl h0.size)) Xw3 hSw3 gr3 hZ hown
  obtain ⟨t_3, kt_3, vs_3, rfl, N3q, K3, f4, f5, f6, f7⟩ := hQ3
  have KK3 : Keep h0 T3.heap [u0] := Keep.trans (Keep.refl h0 [u0]) K3 (allS (Or.inl (List.mem_of_getElem? (i := 0) rfl)) all0)
  have CH8 : CHr Z own_EL s.vm h0 T3.vm T3.heap := CH0.trans CHq3
  have N3 := Fr.app N0 N3q
  obtain ⟨fs, hr, hrun, hended, hW, hsame⟩ := X3.leave (v := none) (fun _ => rfl)
  have qE := hS3.ended (c := ({ frames := 2, cells := 4, slots := 8, locals := 29 } : Room).cells) (k := ({ frames := 2, cells := 4, slots := 8, locals := 29 } : Room).slots) hW (show _ ≤ T3.heap.size from (Nat.le_refl _)) (hsame.mono (by decide) (by decide))
  have qC : CHr Z own_EL s.vm s.heap T3.vm T3.heap := by rw [hh]; exact CH8.trans (CHv.at (show Stand p l e ({ frames := 2, cells := 4, slots := 8, locals := 29 } : Room) (s.setVm T3.vm) m _ below meth c _ _ _ _ from X3) hZ3 hEL CH8.1)
  refine ⟨_, _, pre2 _ ?_, hrun, hended, _, _, rfl, ?_, qC, ⟨_, rfl⟩, qE.1, qE.2.1, qE.2.2⟩
  · show Steps _ _ _ (s₁.setTop (mkF m 6 #[rv u0, rv u1] [.null, (.int (0 : Int32)), (.int (0 : Int32)), (.ref u1), (.ref u0)])) _
    refine st3.trans ?_
    show Steps _ _ _ (T3.setTop (mkF m 9 #[rv u0, rv u1] [])) _
    exact X3.returnOut hx Bd.returns (hb hby d2_9) hr
  · show Q_rmI1_0 Z u0 u1 kA h0 n0 _ T3.heap _
    exact ⟨t_3, kt_3, vs_3, rfl, N3, KK3, f4, f5, f6, f7⟩

theorem ef_rmMk_0 (m : MethodId) (x0 : Int32) (x1 : Int32) (x2 : Int32) (x3 : Int32) (x4 : Int32) : entryFrame m #[(.int x0), (.int x1), (.int x2), (.int x3), (.int x4)] 5 = mkF m 0 #[iv x0, iv x1, iv x2, iv x3, iv x4] [] := by first | (simp [entryFrame, mkF, argsToLocals, Value.category]; done) | rfl
def Q_rmMk_0 (Z : State) (p1 : Int32) (p2 : Int32) (p3 : Int32) (p4 : Int32) (h0 : Heap) (n0 : Nat) (v : Option Value) (h : Heap) (L : List Loc) : Prop := ∃ (sg : Addr), ∃ (t : Jvm.Addr), ∃ (kt : ClassId), ∃ (vs : List Value), (v = (some (.ref sg)) ∧ Fr n0 L ∧ Keep h0 h [] ∧ h0.size ≤ sg ∧ Exa Z h sg "java/lang/String" ∧ Fld Z h sg "java/lang/String" "value" "[B" (.ref t) ∧ Fld Z h sg "java/lang/String" "coder" "B" (.int (0 : Int32)) ∧ Arv Z h t kt .byte (0 : Int32) vs (.int 0))
set_option maxRecDepth 65536 in
set_option maxHeartbeats 40000000 in
theorem rmMk_0 (l : Launch) (Z : State) (a0 : Array Value) (hw : ∀ d ∈ tables_1, d.before a0 Z = true) (ws : List Jvm.Cond) (p1 : Int32) (p2 : Int32) (p3 : Int32) (p4 : Int32) (h0 : Heap) (n0 : Nat) (Z0 : n0 ≤ h0.size) :
    MetFree l own_y10 (head1 (Jvm.Cond.code own_y10 method_3_code 5 (some (.object "java/lang/String")) :: ws) ({ frames := 3, cells := 6, slots := 12, locals := 43 } : Room)) (fun a U => a = #[(.int (0 : Int32)), (.int p1), (.int p2), (.int p3), (.int p4)] ∧ Z.Warmed39 U.vm ∧ U.heap = h0 ∧ CHv Z own_EL U.vm h0) (fun _ _ _ _ _ => True) (fun _ U o U' => ∃ v L, o = .returned v ∧ Q_rmMk_0 Z p1 p2 p3 p4 h0 n0 v U'.heap L ∧ CHr Z own_EL U.vm U.heap U'.vm U'.heap ∧ ReturnedEndW U o U' L ({ frames := 3, cells := 6, slots := 12, locals := 43 } : Room).cells ({ frames := 3, cells := 6, slots := 12, locals := 43 } : Room).slots) := by
  refine MetFree.of_bodySF (plainFor_of_name pn_1) hisR ?_
  intro p e s m args below meth c s₁ Bd hml0 hP hK
  obtain ⟨rfl, hZ, hh, hCH⟩ := hP
  have hx := Bd.exec
  have hby := Bd.bytes
  have hml : c.maxLocals = 5 := hml0
  have hown : s.vm.findClass "com/example/apq/apq/jpql/TokenEndPinLaw" = some m.cls := findClass_of_methodNamed Bd.named
  have hnm := (name_of_methodNamed Bd.named Bd.method).1
  have X0 : Stand p l e ({ frames := 3, cells := 6, slots := 12, locals := 43 } : Room) s m #[(.int (0 : Int32)), (.int p1), (.int p2), (.int p3), (.int p4)] below meth c s₁ [] 0 0 := Stand.of_body Bd
  have e0 : s₁.heap = h0 := by rw [← hh, Bd.state]; rfl
  have N0 := Fr.nil n0
  have pre0 : ∀ t, Steps p.tables e below (s₁.setTop (mkF m 0 #[iv (0 : Int32), iv p1, iv p2, iv p3, iv p4] [])) t → Steps p.tables e below (s₁.setTop (entryFrame m #[(.int (0 : Int32)), (.int p1), (.int p2), (.int p3), (.int p4)] 5)) t := fun t k => castTop (ef_rmMk_0 m (0 : Int32) p1 p2 p3 p4) k
  have hEL : EW Z a0 own_EL := own_hEL hw
  have wS : ∀ a ∈ Bundle.stringAtoms, a.before a0 Z = true := fun d hd => hw d ((by decide +kernel : ∀ d ∈ Bundle.stringAtoms, d ∈ tables_1) d hd)
  have CH0 : CHr Z own_EL s.vm h0 s.vm h0 := CHr.refl hCH
  have hS0 : s.Since s.vm h0.size := (State.WarmedH.refl s).since _
  obtain ⟨T1, h1, X1, e1, E1, A1, D1, U1, st1⟩ := newO X0 hx hZ hown (own_g hw 6 rfl) (own_g hw 7 rfl) (own_g hw 8 rfl) e0 (g := (mkF m 4 #[iv (0 : Int32), iv p1, iv p2, iv p3, iv p4] [])) rfl (hb hby d1_4) (by decide) (by decide)
  obtain ⟨b1, g1⟩ : ∃ z, z = h0.size := ⟨_, rfl⟩
  rw [← g1] at A1 D1 U1 st1
  have o1 : n0 ≤ b1 := Nat.le_trans Z0 (Nat.le_of_eq g1.symm)
  have z1 : h0.size ≤ b1 := Nat.le_trans (Keep.refl h0 []).1 (Nat.le_of_eq g1.symm)
  have CH2 : CHr Z own_EL s.vm h0 s.vm h1 := CH0.trans (CHr.ext E1 CH0.1)
  have Yb3 : Safe Z own_EL s.vm h1 b1 := Safe.ext E1 CH0.1 (Safe.new (Nat.le_of_eq g1.symm))
  have K1 : Keep h0 h1 [] := (Keep.refl h0 []).ext E1
  have f4 : Fld Z h1 b1 "java/lang/String" "coder" "B" (.int (0 : Int32)) := D1 (Or.inr (own_g hw 52 rfl)) (ty := .byte) (by decide)
  have f5 : Fld Z h1 b1 "java/lang/String" "value" "[B" .null := D1 (Or.inr (own_g hw 54 rfl)) (ty := (.array .byte)) (by decide)
  have f6 : n0 ≤ h1.size := (Nat.le_trans Z0 E1.1)
  obtain ⟨T7, h7, k7, X7, e7, E7, A7, st7⟩ := newP X1 hx hZ (own_g hw 9 rfl) e1 (g := (mkF m 9 #[iv (0 : Int32), iv p1, iv p2, iv p3, iv p4] [(.int (0 : Int32)), (.ref b1), (.ref b1)])) rfl (hb hby d1_9) rfl (by decide) (cap := 0) (by decide) (by decide) (by decide) (by decide)
  obtain ⟨b7, g7⟩ : ∃ z, z = h1.size := ⟨_, rfl⟩
  rw [← g7] at A7 st7
  have ne8 : b1 ≠ b7 := Nat.ne_of_lt (Nat.lt_of_lt_of_le A1.lt (Nat.le_of_eq g7.symm))
  have o7 : n0 ≤ b7 := Nat.le_trans f6 (Nat.le_of_eq g7.symm)
  have z7 : h0.size ≤ b7 := Nat.le_trans K1.1 (Nat.le_of_eq g7.symm)
  have CH9 : CHr Z own_EL s.vm h0 s.vm h7 := CH2.trans (CHr.ext E7 CH2.1)
  have Yb10 : Safe Z own_EL s.vm h7 b7 := Safe.ext E7 CH2.1 (Safe.new (Nat.le_of_eq g7.symm))
  have K7 : Keep h0 h7 [] := K1.ext E7
  have V7 : Arv Z h7 b7 k7 .char (0 : Int32) [] (.int (0 : Int32)) := Arv.new A7 (by decide)
  have pre11 : ∀ t, Steps p.tables e below (T7.setTop (mkF m 11 #[iv (0 : Int32), iv p1, iv p2, iv p3, iv p4] [(.ref b7), (.ref b1), (.ref b1)])) t → Steps p.tables e below (s₁.setTop (entryFrame m #[(.int (0 : Int32)), (.int p1), (.int p2), (.int p3), (.int p4)] 5)) t := fun t kt => pre0 t (by
   refine XS.iloadN X0.here hx rfl (hb hby d1_0) rfl ?_
   refine XS.ifNo X0.here hx rfl (hb hby d1_1) rfl ((if0 _ _).trans (teq (by decide : (0 : Int32) = (0 : Int32))).2) ?_
   refine st1 _ ?_
   refine XS.dup X1.here hx rfl (hb hby d1_7) rfl rfl ?_
   refine XS.iconst X1.here hx rfl (hb hby d1_8) ?_
   refine st7 _ ?_
   exact kt)
  have f12 : Exa Z h7 b1 "java/lang/String" := (A1.ext E7)
  have f13 : Fld Z h7 b1 "java/lang/String" "value" "[B" .null := (f5.ext E7)
  have f14 : Fld Z h7 b1 "java/lang/String" "coder" "B" (.int (0 : Int32)) := (f4.ext E7)
  have f15 : n0 ≤ h7.size := (Nat.le_trans f6 E7.1)
  have f17 : h0.size ≤ h7.size := (Nat.le_trans (Nat.le_trans (Nat.le_refl h0.size) E1.1) E7.1)
  have f18 : Safe Z own_EL s.vm h7 b1 := (Safe.ext E7 CH2.1 Yb3)
  obtain ⟨_, _, ⟨T16, L16, k16, n16⟩, -, Xw16, hSw16, gr16, ⟨Lc16, hQ16, l16, y16, z16, CHq16⟩, st16⟩ := X7.specialBackS hx (y := own_y9) rfl hown (mvT hZ (own_g hw 10 rfl)) (mvT hZ (own_g hw 11 rfl)) (mvT hZ (own_g hw 12 rfl)) (by decide) (backOfSH (W := 1) (rmI1_0 l Z a0 hw [] b1 b7 k7 h7 n0 f15 f12 f13 f14 V7 o1) hZ (own_g hw 12 rfl) (own_g hw 8 rfl) (by decide) (by decide) hEL CH9.1) (g := (mkF m 11 #[iv (0 : Int32), iv p1, iv p2, iv p3, iv p4] [(.ref b7), (.ref b1), (.ref b1)])) rfl (by rw [hml]; rfl) (Steps.refl _) (a := b1) (argsL := [(.ref b7)]) (rest := [(.ref b1)]) (lenOf pd___C_V rfl) rfl (by show 2 * 0 + _ ≤ _; exact Nat.le_of_eq rfl) (hb hby d1_11) (fun _ _ => ⟨rfl, e7, (by decide : 2 + 4 ≤ _), (by decide : 4 + 8 ≤ _)⟩)
  dsimp only [Pt.U, Pt.locs, Pt.cells, Pt.slots] at Xw16 hSw16 gr16 l16 y16 z16 st16 hQ16 CHq16
  subst l16 y16 z16
  obtain ⟨X16, hS16, hZ16, hown16⟩ := rebS hS0 (by rw [e7]; exact f17) Xw16 hSw16 gr16 hZ hown
  obtain ⟨t_16, kt_16, vs_16, rfl, N16q, K16, f19, f20, f21, f22⟩ := hQ16
  have KK16 : Keep h0 T16.heap [] := Keep.trans K7 K16 (allS (Or.inr z1) all0)
  have CH23 : CHr Z own_EL s.vm h0 T16.vm T16.heap := CH9.trans CHq16
  have Yr24 : Safe Z own_EL T16.vm T16.heap b1 := CHr.safe CHq16 f12.lt f18
  have Yr25 : Safe Z own_EL T16.vm T16.heap b7 := CHr.safe CHq16 V7.lt Yb10
  have N16 := Fr.app N0 N16q
  obtain ⟨fs, hr, hrun, hended, hW, hsame⟩ := X16.leave (v := some (.ref b1)) (fun h => by rw [Bd.returns] at h; cases h)
  have qE := hS16.ended (c := ({ frames := 3, cells := 6, slots := 12, locals := 43 } : Room).cells) (k := ({ frames := 3, cells := 6, slots := 12, locals := 43 } : Room).slots) hW (show _ ≤ T16.heap.size from (Nat.le_refl _)) (hsame.mono (by decide) (by decide))
  have qC : CHr Z own_EL s.vm s.heap T16.vm T16.heap := by rw [hh]; exact CH23.trans (CHv.at (show Stand p l e ({ frames := 3, cells := 6, slots := 12, locals := 43 } : Room) (s.setVm T16.vm) m _ below meth c _ _ _ _ from X16) hZ16 hEL CH23.1)
  refine ⟨_, _, pre11 _ ?_, hrun, hended, _, _, rfl, ?_, qC, ⟨_, rfl⟩, qE.1, qE.2.1, qE.2.2⟩
  · show Steps _ _ _ (T7.setTop (mkF m 11 #[iv (0 : Int32), iv p1, iv p2, iv p3, iv p4] [(.ref b7), (.ref b1), (.ref b1)])) _
    refine st16.trans ?_
    show Steps _ _ _ (T16.setTop (mkF m 14 #[iv (0 : Int32), iv p1, iv p2, iv p3, iv p4] [(.ref b1)])) _
    exact retOut X16 hx Bd.returns rfl (Or.inr (Or.inr (Or.inr (Or.inr ⟨rfl, rfl, rfl⟩)))) (hb hby d1_14) hr
  · show Q_rmMk_0 Z p1 p2 p3 p4 h0 n0 _ T16.heap _
    exact ⟨b1, t_16, kt_16, vs_16, rfl, N16, KK16, z1, f19, f20, f21, f22⟩

theorem ef_rmPK (m : MethodId) (x0 : Int32) : entryFrame m #[(.int x0)] 1 = mkF m 0 #[iv x0] [] := by first | (simp [entryFrame, mkF, argsToLocals, Value.category]; done) | rfl
set_option maxRecDepth 65536 in
set_option maxHeartbeats 40000000 in
theorem rmPK (l : Launch) (Z : State) (a0 : Array Value) (hw : ∀ d ∈ tables_1, d.before a0 Z = true) (ws : List Jvm.Cond) (p0 : Int32) (w0 : Addr) (w1 : Addr) (w2 : Addr) (w3 : Addr) (w4 : Addr) (w5 : Addr) (w6 : Addr) (h0 : Heap) (n0 : Nat) (Z0 : n0 ≤ h0.size) (P_S_Token_Kind_WORD : Sta Z h0 "com/example/apq/apq/jpql/Token$Kind" "WORD" "Lcom/example/apq/apq/jpql/Token$Kind;" (.ref w0)) (P_S_Token_Kind_STRING : Sta Z h0 "com/example/apq/apq/jpql/Token$Kind" "STRING" "Lcom/example/apq/apq/jpql/Token$Kind;" (.ref w1)) (P_S_Token_Kind_NUMBER : Sta Z h0 "com/example/apq/apq/jpql/Token$Kind" "NUMBER" "Lcom/example/apq/apq/jpql/Token$Kind;" (.ref w2)) (P_S_Token_Kind_DATETIME : Sta Z h0 "com/example/apq/apq/jpql/Token$Kind" "DATETIME" "Lcom/example/apq/apq/jpql/Token$Kind;" (.ref w3)) (P_S_Token_Kind_PARAMETER : Sta Z h0 "com/example/apq/apq/jpql/Token$Kind" "PARAMETER" "Lcom/example/apq/apq/jpql/Token$Kind;" (.ref w4)) (P_S_Token_Kind_SYMBOL : Sta Z h0 "com/example/apq/apq/jpql/Token$Kind" "SYMBOL" "Lcom/example/apq/apq/jpql/Token$Kind;" (.ref w5)) (P_S_Token_Kind_END : Sta Z h0 "com/example/apq/apq/jpql/Token$Kind" "END" "Lcom/example/apq/apq/jpql/Token$Kind;" (.ref w6)) :
    MetFree l own_y11 (head1 (Jvm.Cond.code own_y11 method_4_code 1 (some (.object "com/example/apq/apq/jpql/Token$Kind")) :: ws) ({ frames := 0, cells := 0, slots := 0, locals := 0 } : Room)) (fun a U => a = #[(.int p0)] ∧ Z.Warmed39 U.vm ∧ U.heap = h0) (fun _ _ _ _ _ => True) (fun _ U o U' => ∃ v L, o = .returned v ∧ own_QP (some (.ref (own_pk p0 w0 w1 w2 w3 w4 w5 w6))) h0 n0 v U'.heap L ∧ FrameEnd U o U' L ({ frames := 0, cells := 0, slots := 0, locals := 0 } : Room).cells ({ frames := 0, cells := 0, slots := 0, locals := 0 } : Room).slots) := by
  refine MetFree.of_bodySF (plainFor_of_name pn_13) hisR ?_
  intro p e s m args below meth c s₁ Bd hml0 hP hK
  obtain ⟨rfl, hZ, hh⟩ := hP
  have hx := Bd.exec
  have hby := Bd.bytes
  have hml : c.maxLocals = 1 := hml0
  have hown : s.vm.findClass "com/example/apq/apq/jpql/TokenEndPinLaw" = some m.cls := findClass_of_methodNamed Bd.named
  have hnm := (name_of_methodNamed Bd.named Bd.method).1
  have X0 : Stand p l e ({ frames := 0, cells := 0, slots := 0, locals := 0 } : Room) s m #[(.int p0)] below meth c s₁ [] 0 0 := Stand.of_body Bd
  have e0 : s₁.heap = h0 := by rw [← hh, Bd.state]; rfl
  have N0 := Fr.nil n0
  have pre0 : ∀ t, Steps p.tables e below (s₁.setTop (mkF m 0 #[iv p0] [])) t → Steps p.tables e below (s₁.setTop (entryFrame m #[(.int p0)] 1)) t := fun t k => castTop (ef_rmPK m p0) k
  have pre2 : ∀ t, Steps p.tables e below (s₁.setTop (mkF m 1 #[iv p0] [(.int p0)])) t → Steps p.tables e below (s₁.setTop (entryFrame m #[(.int p0)] 1)) t := fun t kt => pre0 t (by
   refine XS.iloadN X0.here hx rfl (hb hby d13_0) rfl ?_
   exact kt)
  by_cases hc1_1 : p0 = (0 : Int32)
  · obtain ⟨T3, X3, e3, st3⟩ := getS2 X0 hx hZ hown (host := "") (Or.inl (own_g hw 58 rfl)) Via.refl e0 P_S_Token_Kind_WORD (g := (mkF m 4 #[iv p0] [])) rfl (hb hby d13_4)
    obtain ⟨fs, hr, hrun, hended, hW, hsame⟩ := X3.leave (v := some (.ref w0)) (fun h => by rw [Bd.returns] at h; cases h)
    refine ⟨_, _, pre2 _ ?_, hrun, hended, _, _, rfl, ?_, ⟨_, rfl⟩, hW, hsame.mono (by decide) (by decide)⟩
    · refine XS.ifNo X0.here hx rfl (hb hby d13_1) rfl ((if0 _ _).trans (teq hc1_1).2) ?_
      refine st3 _ ?_
      show Steps _ _ _ (T3.setTop (mkF m 7 #[iv p0] [(.ref w0)])) _
      exact retOut X3 hx Bd.returns rfl (Or.inr (Or.inr (Or.inr (Or.inr ⟨rfl, rfl, rfl⟩)))) (hb hby d13_7) hr
    · show own_QP (some (.ref (own_pk p0 w0 w1 w2 w3 w4 w5 w6))) h0 n0 _ T3.heap _
      rw [e3]
      exact ⟨(by first | rfl | simp [own_pk, hc1_1]), N0, rfl⟩
  · have pre5 : ∀ t, Steps p.tables e below (s₁.setTop (mkF m 10 #[iv p0] [(.int (1 : Int32)), (.int p0)])) t → Steps p.tables e below (s₁.setTop (entryFrame m #[(.int p0)] 1)) t := fun t kt => pre2 t (by
     refine XS.ifYes X0.here hx rfl (pc0 := 1) (pc' := 8) rfl (hb hby d13_1) rfl ((if0 _ _).trans (feq hc1_1).2) (by decide) (by decide) ?_
     refine XS.iloadN X0.here hx rfl (hb hby d13_8) rfl ?_
     refine XS.iconst X0.here hx rfl (hb hby d13_9) ?_
     exact kt)
    by_cases hc10_4 : p0 = (1 : Int32)
    · obtain ⟨T6, X6, e6, st6⟩ := getS2 X0 hx hZ hown (host := "") (Or.inl (own_g hw 103 rfl)) Via.refl e0 P_S_Token_Kind_STRING (g := (mkF m 13 #[iv p0] [])) rfl (hb hby d13_13)
      obtain ⟨fs, hr, hrun, hended, hW, hsame⟩ := X6.leave (v := some (.ref w1)) (fun h => by rw [Bd.returns] at h; cases h)
      refine ⟨_, _, pre5 _ ?_, hrun, hended, _, _, rfl, ?_, ⟨_, rfl⟩, hW, hsame.mono (by decide) (by decide)⟩
      · refine XS.icmpNo X0.here hx rfl (hb hby d13_10) rfl (teq hc10_4).2 ?_
        refine st6 _ ?_
        show Steps _ _ _ (T6.setTop (mkF m 16 #[iv p0] [(.ref w1)])) _
        exact retOut X6 hx Bd.returns rfl (Or.inr (Or.inr (Or.inr (Or.inr ⟨rfl, rfl, rfl⟩)))) (hb hby d13_16) hr
      · show own_QP (some (.ref (own_pk p0 w0 w1 w2 w3 w4 w5 w6))) h0 n0 _ T6.heap _
        rw [e6]
        exact ⟨(by first | rfl | simp [own_pk, hc1_1, hc10_4]), N0, rfl⟩
    · have pre8 : ∀ t, Steps p.tables e below (s₁.setTop (mkF m 19 #[iv p0] [(.int (2 : Int32)), (.int p0)])) t → Steps p.tables e below (s₁.setTop (entryFrame m #[(.int p0)] 1)) t := fun t kt => pre5 t (by
       refine XS.icmpYes X0.here hx rfl (pc0 := 10) (pc' := 17) rfl (hb hby d13_10) rfl (feq hc10_4).2 (by decide) (by decide) ?_
       refine XS.iloadN X0.here hx rfl (hb hby d13_17) rfl ?_
       refine XS.iconst X0.here hx rfl (hb hby d13_18) ?_
       exact kt)
      by_cases hc19_7 : p0 = (2 : Int32)
      · obtain ⟨T9, X9, e9, st9⟩ := getS2 X0 hx hZ hown (host := "") (Or.inl (own_g hw 99 rfl)) Via.refl e0 P_S_Token_Kind_NUMBER (g := (mkF m 22 #[iv p0] [])) rfl (hb hby d13_22)
        obtain ⟨fs, hr, hrun, hended, hW, hsame⟩ := X9.leave (v := some (.ref w2)) (fun h => by rw [Bd.returns] at h; cases h)
        refine ⟨_, _, pre8 _ ?_, hrun, hended, _, _, rfl, ?_, ⟨_, rfl⟩, hW, hsame.mono (by decide) (by decide)⟩
        · refine XS.icmpNo X0.here hx rfl (hb hby d13_19) rfl (teq hc19_7).2 ?_
          refine st9 _ ?_
          show Steps _ _ _ (T9.setTop (mkF m 25 #[iv p0] [(.ref w2)])) _
          exact retOut X9 hx Bd.returns rfl (Or.inr (Or.inr (Or.inr (Or.inr ⟨rfl, rfl, rfl⟩)))) (hb hby d13_25) hr
        · show own_QP (some (.ref (own_pk p0 w0 w1 w2 w3 w4 w5 w6))) h0 n0 _ T9.heap _
          rw [e9]
          exact ⟨(by first | rfl | simp [own_pk, hc1_1, hc10_4, hc19_7]), N0, rfl⟩
      · have pre11 : ∀ t, Steps p.tables e below (s₁.setTop (mkF m 28 #[iv p0] [(.int (3 : Int32)), (.int p0)])) t → Steps p.tables e below (s₁.setTop (entryFrame m #[(.int p0)] 1)) t := fun t kt => pre8 t (by
         refine XS.icmpYes X0.here hx rfl (pc0 := 19) (pc' := 26) rfl (hb hby d13_19) rfl (feq hc19_7).2 (by decide) (by decide) ?_
         refine XS.iloadN X0.here hx rfl (hb hby d13_26) rfl ?_
         refine XS.iconst X0.here hx rfl (hb hby d13_27) ?_
         exact kt)
        by_cases hc28_10 : p0 = (3 : Int32)
        · obtain ⟨T12, X12, e12, st12⟩ := getS2 X0 hx hZ hown (host := "") (Or.inl (own_g hw 107 rfl)) Via.refl e0 P_S_Token_Kind_DATETIME (g := (mkF m 31 #[iv p0] [])) rfl (hb hby d13_31)
          obtain ⟨fs, hr, hrun, hended, hW, hsame⟩ := X12.leave (v := some (.ref w3)) (fun h => by rw [Bd.returns] at h; cases h)
          refine ⟨_, _, pre11 _ ?_, hrun, hended, _, _, rfl, ?_, ⟨_, rfl⟩, hW, hsame.mono (by decide) (by decide)⟩
          · refine XS.icmpNo X0.here hx rfl (hb hby d13_28) rfl (teq hc28_10).2 ?_
            refine st12 _ ?_
            show Steps _ _ _ (T12.setTop (mkF m 34 #[iv p0] [(.ref w3)])) _
            exact retOut X12 hx Bd.returns rfl (Or.inr (Or.inr (Or.inr (Or.inr ⟨rfl, rfl, rfl⟩)))) (hb hby d13_34) hr
          · show own_QP (some (.ref (own_pk p0 w0 w1 w2 w3 w4 w5 w6))) h0 n0 _ T12.heap _
            rw [e12]
            exact ⟨(by first | rfl | simp [own_pk, hc1_1, hc10_4, hc19_7, hc28_10]), N0, rfl⟩
        · have pre14 : ∀ t, Steps p.tables e below (s₁.setTop (mkF m 37 #[iv p0] [(.int (4 : Int32)), (.int p0)])) t → Steps p.tables e below (s₁.setTop (entryFrame m #[(.int p0)] 1)) t := fun t kt => pre11 t (by
           refine XS.icmpYes X0.here hx rfl (pc0 := 28) (pc' := 35) rfl (hb hby d13_28) rfl (feq hc28_10).2 (by decide) (by decide) ?_
           refine XS.iloadN X0.here hx rfl (hb hby d13_35) rfl ?_
           refine XS.iconst X0.here hx rfl (hb hby d13_36) ?_
           exact kt)
          by_cases hc37_13 : p0 = (4 : Int32)
          · obtain ⟨T15, X15, e15, st15⟩ := getS2 X0 hx hZ hown (host := "") (Or.inl (own_g hw 97 rfl)) Via.refl e0 P_S_Token_Kind_PARAMETER (g := (mkF m 40 #[iv p0] [])) rfl (hb hby d13_40)
            obtain ⟨fs, hr, hrun, hended, hW, hsame⟩ := X15.leave (v := some (.ref w4)) (fun h => by rw [Bd.returns] at h; cases h)
            refine ⟨_, _, pre14 _ ?_, hrun, hended, _, _, rfl, ?_, ⟨_, rfl⟩, hW, hsame.mono (by decide) (by decide)⟩
            · refine XS.icmpNo X0.here hx rfl (hb hby d13_37) rfl (teq hc37_13).2 ?_
              refine st15 _ ?_
              show Steps _ _ _ (T15.setTop (mkF m 43 #[iv p0] [(.ref w4)])) _
              exact retOut X15 hx Bd.returns rfl (Or.inr (Or.inr (Or.inr (Or.inr ⟨rfl, rfl, rfl⟩)))) (hb hby d13_43) hr
            · show own_QP (some (.ref (own_pk p0 w0 w1 w2 w3 w4 w5 w6))) h0 n0 _ T15.heap _
              rw [e15]
              exact ⟨(by first | rfl | simp [own_pk, hc1_1, hc10_4, hc19_7, hc28_10, hc37_13]), N0, rfl⟩
          · have pre17 : ∀ t, Steps p.tables e below (s₁.setTop (mkF m 46 #[iv p0] [(.int (5 : Int32)), (.int p0)])) t → Steps p.tables e below (s₁.setTop (entryFrame m #[(.int p0)] 1)) t := fun t kt => pre14 t (by
             show Steps _ _ _ (s₁.setTop (mkF m 37 #[iv p0] [(.int (4 : Int32)), (.int p0)])) _
             refine XS.icmpYes X0.here hx rfl (pc0 := 37) (pc' := 44) rfl (hb hby d13_37) rfl (feq hc37_13).2 (by decide) (by decide) ?_
             refine XS.iloadN X0.here hx rfl (hb hby d13_44) rfl ?_
             refine XS.iconst X0.here hx rfl (hb hby d13_45) ?_
             exact kt)
            by_cases hc46_16 : p0 = (5 : Int32)
            · obtain ⟨T18, X18, e18, st18⟩ := getS2 X0 hx hZ hown (host := "") (Or.inl (own_g hw 101 rfl)) Via.refl e0 P_S_Token_Kind_SYMBOL (g := (mkF m 49 #[iv p0] [])) rfl (hb hby d13_49)
              obtain ⟨fs, hr, hrun, hended, hW, hsame⟩ := X18.leave (v := some (.ref w5)) (fun h => by rw [Bd.returns] at h; cases h)
              refine ⟨_, _, pre17 _ ?_, hrun, hended, _, _, rfl, ?_, ⟨_, rfl⟩, hW, hsame.mono (by decide) (by decide)⟩
              · refine XS.icmpNo X0.here hx rfl (hb hby d13_46) rfl (teq hc46_16).2 ?_
                refine st18 _ ?_
                show Steps _ _ _ (T18.setTop (mkF m 52 #[iv p0] [(.ref w5)])) _
                exact retOut X18 hx Bd.returns rfl (Or.inr (Or.inr (Or.inr (Or.inr ⟨rfl, rfl, rfl⟩)))) (hb hby d13_52) hr
              · show own_QP (some (.ref (own_pk p0 w0 w1 w2 w3 w4 w5 w6))) h0 n0 _ T18.heap _
                rw [e18]
                exact ⟨(by first | rfl | simp [own_pk, hc1_1, hc10_4, hc19_7, hc28_10, hc37_13, hc46_16]), N0, rfl⟩
            · obtain ⟨T19, X19, e19, st19⟩ := getS2 X0 hx hZ hown (host := "") (Or.inl (own_g hw 105 rfl)) Via.refl e0 P_S_Token_Kind_END (g := (mkF m 53 #[iv p0] [])) rfl (hb hby d13_53)
              obtain ⟨fs, hr, hrun, hended, hW, hsame⟩ := X19.leave (v := some (.ref w6)) (fun h => by rw [Bd.returns] at h; cases h)
              refine ⟨_, _, pre17 _ ?_, hrun, hended, _, _, rfl, ?_, ⟨_, rfl⟩, hW, hsame.mono (by decide) (by decide)⟩
              · refine XS.icmpYes X0.here hx rfl (pc0 := 46) (pc' := 53) rfl (hb hby d13_46) rfl (feq hc46_16).2 (by decide) (by decide) ?_
                refine st19 _ ?_
                show Steps _ _ _ (T19.setTop (mkF m 56 #[iv p0] [(.ref w6)])) _
                exact retOut X19 hx Bd.returns rfl (Or.inr (Or.inr (Or.inr (Or.inr ⟨rfl, rfl, rfl⟩)))) (hb hby d13_56) hr
              · show own_QP (some (.ref (own_pk p0 w0 w1 w2 w3 w4 w5 w6))) h0 n0 _ T19.heap _
                rw [e19]
                exact ⟨(by first | rfl | simp [own_pk, hc1_1, hc10_4, hc19_7, hc28_10, hc37_13, hc46_16]), N0, rfl⟩

theorem ef_rmRec (m : MethodId) (x0 : Addr) : entryFrame m #[(.ref x0)] 1 = mkF m 0 #[rv x0] [] := by first | (simp [entryFrame, mkF, argsToLocals, Value.category]; done) | rfl
set_option maxRecDepth 65536 in
set_option maxHeartbeats 40000000 in
theorem rmRec (l : Launch) (Z : State) (a0 : Array Value) (hw : ∀ d ∈ tables_1, d.before a0 Z = true) (ws : List Jvm.Cond) (u0 : Addr) (h0 : Heap) (n0 : Nat) (Z0 : n0 ≤ h0.size) :
    MetFree l own_y12 (head1 (Jvm.Cond.code own_y12 jdk_30_method_1_code 1 none :: ws) ({ frames := 1, cells := 0, slots := 0, locals := 12 } : Room)) (fun a U => a = #[(.ref u0)] ∧ Z.Warmed39 U.vm ∧ U.heap = h0) (fun _ _ _ _ _ => True) (fun _ U o U' => ∃ v L, o = .returned v ∧ own_QP none h0 n0 v U'.heap L ∧ FrameEnd U o U' L ({ frames := 1, cells := 0, slots := 0, locals := 12 } : Room).cells ({ frames := 1, cells := 0, slots := 0, locals := 12 } : Room).slots) := by
  refine MetFree.of_bodySF (plainFor_of_name pn_15) hisR ?_
  intro p e s m args below meth c s₁ Bd hml0 hP hK
  obtain ⟨rfl, hZ, hh⟩ := hP
  have hx := Bd.exec
  have hby := Bd.bytes
  have hml : c.maxLocals = 1 := hml0
  have hown : s.vm.findClass "java/lang/Record" = some m.cls := findClass_of_methodNamed Bd.named
  have hnm := (name_of_methodNamed Bd.named Bd.method).1
  have X0 : Stand p l e ({ frames := 1, cells := 0, slots := 0, locals := 12 } : Room) s m #[(.ref u0)] below meth c s₁ [] 0 0 := Stand.of_body Bd
  have e0 : s₁.heap = h0 := by rw [← hh, Bd.state]; rfl
  have N0 := Fr.nil n0
  have pre0 : ∀ t, Steps p.tables e below (s₁.setTop (mkF m 0 #[rv u0] [])) t → Steps p.tables e below (s₁.setTop (entryFrame m #[(.ref u0)] 1)) t := fun t k => castTop (ef_rmRec m u0) k
  obtain ⟨T1, X1, e1, st1⟩ := initO X0 hx hZ hown (own_g hw 72 rfl) (own_g hw 18 rfl) (own_g hw 19 rfl) e0 (g := (mkF m 1 #[rv u0] [(.ref u0)])) rfl (by rw [hml]; rfl) rfl (hb hby d15_1) (by decide) (W := 0) (by show 2 * 0 + _ ≤ _; exact Nat.le_of_eq rfl) (by decide)
  obtain ⟨fs, hr, hrun, hended, hW, hsame⟩ := X1.leave (v := none) (fun _ => rfl)
  refine ⟨_, _, pre0 _ ?_, hrun, hended, _, _, rfl, ?_, ⟨_, rfl⟩, hW, hsame.mono (by decide) (by decide)⟩
  · refine XS.aloadN X0.here hx rfl (hb hby d15_0) rfl rfl ?_
    show Steps _ _ _ (s₁.setTop (mkF m 1 #[rv u0] [(.ref u0)])) _
    refine st1 _ ?_
    show Steps _ _ _ (T1.setTop (mkF m 4 #[rv u0] [])) _
    exact X1.returnOut hx Bd.returns (hb hby d15_4) hr
  · show own_QP none h0 n0 _ T1.heap _
    rw [e1]
    exact ⟨rfl, N0, rfl⟩

theorem ef_rmTI (m : MethodId) (x0 : Addr) (x1 : Addr) (x2 : Addr) (x3 : Int32) : entryFrame m #[(.ref x0), (.ref x1), (.ref x2), (.int x3)] 4 = mkF m 0 #[rv x0, rv x1, rv x2, iv x3] [] := by first | (simp [entryFrame, mkF, argsToLocals, Value.category]; done) | rfl
def Q_rmTI (Z : State) (u0 : Addr) (u1 : Addr) (u2 : Addr) (p3 : Int32) (h0 : Heap) (n0 : Nat) (v : Option Value) (h : Heap) (L : List Loc) : Prop := (v = none ∧ Fr n0 L ∧ Keep h0 h [u0] ∧ Exa Z h u0 "com/example/apq/apq/jpql/Token" ∧ Fld Z h u0 "com/example/apq/apq/jpql/Token" "text" "Ljava/lang/String;" (.ref u2) ∧ Fld Z h u0 "com/example/apq/apq/jpql/Token" "offset" "I" (.int p3))
set_option maxRecDepth 65536 in
set_option maxHeartbeats 40000000 in
theorem rmTI (l : Launch) (Z : State) (a0 : Array Value) (hw : ∀ d ∈ tables_1, d.before a0 Z = true) (ws : List Jvm.Cond) (u0 : Addr) (u1 : Addr) (u2 : Addr) (p3 : Int32) (h0 : Heap) (n0 : Nat) (Z0 : n0 ≤ h0.size) (P_E_u0 : Exa Z h0 u0 "com/example/apq/apq/jpql/Token") (P_F_u0_Token_kind : Fld Z h0 u0 "com/example/apq/apq/jpql/Token" "kind" "Lcom/example/apq/apq/jpql/Token$Kind;" .null) (P_F_u0_Token_text : Fld Z h0 u0 "com/example/apq/apq/jpql/Token" "text" "Ljava/lang/String;" .null) (P_F_u0_Token_offset : Fld Z h0 u0 "com/example/apq/apq/jpql/Token" "offset" "I" (.int (0 : Int32))) (g_u0 : n0 ≤ u0) :
    MetFree l own_y13 (head1 (Jvm.Cond.code own_y13 prog_97_method_1_code 4 none :: ws) ({ frames := 2, cells := 0, slots := 0, locals := 24 } : Room)) (fun a U => a = #[(.ref u0), (.ref u1), (.ref u2), (.int p3)] ∧ Z.Warmed39 U.vm ∧ U.heap = h0) (fun _ _ _ _ _ => True) (fun _ U o U' => ∃ v L, o = .returned v ∧ Q_rmTI Z u0 u1 u2 p3 h0 n0 v U'.heap L ∧ FrameEnd U o U' L ({ frames := 2, cells := 0, slots := 0, locals := 24 } : Room).cells ({ frames := 2, cells := 0, slots := 0, locals := 24 } : Room).slots) := by
  refine MetFree.of_bodySF (plainFor_of_name pn_14) hisR ?_
  intro p e s m args below meth c s₁ Bd hml0 hP hK
  obtain ⟨rfl, hZ, hh⟩ := hP
  have hx := Bd.exec
  have hby := Bd.bytes
  have hml : c.maxLocals = 4 := hml0
  have hown : s.vm.findClass "com/example/apq/apq/jpql/Token" = some m.cls := findClass_of_methodNamed Bd.named
  have hnm := (name_of_methodNamed Bd.named Bd.method).1
  have X0 : Stand p l e ({ frames := 2, cells := 0, slots := 0, locals := 24 } : Room) s m #[(.ref u0), (.ref u1), (.ref u2), (.int p3)] below meth c s₁ [] 0 0 := Stand.of_body Bd
  have e0 : s₁.heap = h0 := by rw [← hh, Bd.state]; rfl
  have N0 := Fr.nil n0
  have pre0 : ∀ t, Steps p.tables e below (s₁.setTop (mkF m 0 #[rv u0, rv u1, rv u2, iv p3] [])) t → Steps p.tables e below (s₁.setTop (entryFrame m #[(.ref u0), (.ref u1), (.ref u2), (.int p3)] 4)) t := fun t k => castTop (ef_rmTI m u0 u1 u2 p3) k
  obtain ⟨_, _, ⟨T1, L1, k1, n1⟩, -, X1, ⟨Lc1, hQ1, l1, y1, z1⟩, st1⟩ := X0.specialBack hx (y := own_y12) rfl hown (mvT hZ (own_g hw 67 rfl)) (mvT hZ (own_g hw 68 rfl)) (mvT hZ (own_g hw 71 rfl)) (by decide) (backOf (W := 0) (rmRec l Z a0 hw [] u0 h0 n0 Z0 ) hZ (own_g hw 71 rfl) (own_g hw 70 rfl) (by decide) (by decide)) (g := (mkF m 1 #[rv u0, rv u1, rv u2, iv p3] [(.ref u0)])) rfl (by rw [hml]; rfl) (Steps.refl _) (a := u0) (argsL := []) (rest := []) (lenOf pd___V rfl) rfl (by show 2 * 0 + _ ≤ _; exact Nat.le_of_eq rfl) (hb hby d14_1) (fun _ _ => ⟨rfl, e0, (by decide : 0 + 0 ≤ _), (by decide : 0 + 0 ≤ _)⟩)
  dsimp only [Pt.U, Pt.locs, Pt.cells, Pt.slots] at X1 l1 y1 z1 st1 hQ1
  subst l1 y1 z1
  obtain ⟨rfl, N1q, e1⟩ := hQ1
  have N1 := Fr.app N0 N1q
  obtain ⟨T2, h2, X2, e2, W2, st2⟩ := putF X1 hx hZ hown (host := "") (Or.inl (own_g hw 73 rfl)) Via.refl e1 P_F_u0_Token_kind P_E_u0 (Or.inr ⟨(own_g hw 74 rfl), rfl, hnm⟩) (own_g hw 62 rfl) (ty := (.object "com/example/apq/apq/jpql/Token$Kind")) (by decide) rfl rfl (g := (mkF m 6 #[rv u0, rv u1, rv u2, iv p3] [(.ref u1), (.ref u0)])) rfl rfl (hb hby d14_6)
  have f2_ : Fld Z h2 u0 "com/example/apq/apq/jpql/Token" "kind" "Lcom/example/apq/apq/jpql/Token$Kind;" (.ref u1) := P_F_u0_Token_kind.same W2
  have N3 := Fr.snoc X2 N1 g_u0
  have K4 : Keep h0 h2 [u0] := (Keep.refl h0 [u0]).wr W2 (Or.inl (List.mem_of_getElem? (i := 0) rfl))
  have f5 : Exa Z h2 u0 "com/example/apq/apq/jpql/Token" := (P_E_u0.wr W2)
  have f6 : Fld Z h2 u0 "com/example/apq/apq/jpql/Token" "text" "Ljava/lang/String;" .null := (P_F_u0_Token_text.other W2 (Or.inr (slot_ne (Or.inr (own_g hw 76 rfl)) (Or.inr (own_g hw 74 rfl)) (by decide) (t := (.object "java/lang/String")) (t' := (.object "com/example/apq/apq/jpql/Token$Kind")) (by decide) (by decide))))
  obtain ⟨T7, h7, X7, e7, W7, st7⟩ := putF X2 hx hZ hown (host := "") (Or.inl (own_g hw 75 rfl)) Via.refl e2 f6 f5 (Or.inr ⟨(own_g hw 76 rfl), rfl, hnm⟩) (own_g hw 62 rfl) (ty := (.object "java/lang/String")) (by decide) rfl rfl (g := (mkF m 11 #[rv u0, rv u1, rv u2, iv p3] [(.ref u2), (.ref u0)])) rfl rfl (hb hby d14_11)
  have f7_ : Fld Z h7 u0 "com/example/apq/apq/jpql/Token" "text" "Ljava/lang/String;" (.ref u2) := f6.same W7
  have N8 := Fr.snoc X7 N3 g_u0
  have K9 : Keep h0 h7 [u0] := K4.wr W7 (Or.inl (List.mem_of_getElem? (i := 0) rfl))
  have f10 : Exa Z h7 u0 "com/example/apq/apq/jpql/Token" := (f5.wr W7)
  have f11 : Fld Z h7 u0 "com/example/apq/apq/jpql/Token" "offset" "I" (.int (0 : Int32)) := ((P_F_u0_Token_offset.other W2 (Or.inr (slot_ne (Or.inr (own_g hw 78 rfl)) (Or.inr (own_g hw 74 rfl)) (by decide) (t := .int) (t' := (.object "com/example/apq/apq/jpql/Token$Kind")) (by decide) (by decide)))).other W7 (Or.inr (slot_ne (Or.inr (own_g hw 78 rfl)) (Or.inr (own_g hw 76 rfl)) (by decide) (t := .int) (t' := (.object "java/lang/String")) (by decide) (by decide))))
  obtain ⟨T12, h12, X12, e12, W12, st12⟩ := putF X7 hx hZ hown (host := "") (Or.inl (own_g hw 77 rfl)) Via.refl e7 f11 f10 (Or.inr ⟨(own_g hw 78 rfl), rfl, hnm⟩) (own_g hw 62 rfl) (ty := .int) (by decide) rfl rfl (g := (mkF m 16 #[rv u0, rv u1, rv u2, iv p3] [(.int p3), (.ref u0)])) rfl rfl (hb hby d14_16)
  have f12_ : Fld Z h12 u0 "com/example/apq/apq/jpql/Token" "offset" "I" (.int p3) := f11.same W12
  have N13 := Fr.snoc X12 N8 g_u0
  have K14 : Keep h0 h12 [u0] := K9.wr W12 (Or.inl (List.mem_of_getElem? (i := 0) rfl))
  obtain ⟨fs, hr, hrun, hended, hW, hsame⟩ := X12.leave (v := none) (fun _ => rfl)
  have f15 : Exa Z h12 u0 "com/example/apq/apq/jpql/Token" := (f10.wr W12)
  have f16 : Fld Z h12 u0 "com/example/apq/apq/jpql/Token" "text" "Ljava/lang/String;" (.ref u2) := (f7_.other W12 (Or.inr (slot_ne (Or.inr (own_g hw 76 rfl)) (Or.inr (own_g hw 78 rfl)) (by decide) (t := (.object "java/lang/String")) (t' := .int) (by decide) (by decide))))
  refine ⟨_, _, pre0 _ ?_, hrun, hended, _, _, rfl, ?_, ⟨_, rfl⟩, hW, hsame.mono (by decide) (by decide)⟩
  · refine XS.aloadN X0.here hx rfl (hb hby d14_0) rfl rfl ?_
    show Steps _ _ _ (s₁.setTop (mkF m 1 #[rv u0, rv u1, rv u2, iv p3] [(.ref u0)])) _
    refine st1.trans ?_
    refine XS.aloadN X1.here hx rfl (hb hby d14_4) rfl rfl ?_
    refine XS.aloadN X1.here hx rfl (hb hby d14_5) rfl rfl ?_
    refine st2 _ ?_
    refine XS.aloadN X2.here hx rfl (hb hby d14_9) rfl rfl ?_
    refine XS.aloadN X2.here hx rfl (hb hby d14_10) rfl rfl ?_
    refine st7 _ ?_
    refine XS.aloadN X7.here hx rfl (hb hby d14_14) rfl rfl ?_
    refine XS.iloadN X7.here hx rfl (hb hby d14_15) rfl ?_
    refine st12 _ ?_
    show Steps _ _ _ (T12.setTop (mkF m 19 #[rv u0, rv u1, rv u2, iv p3] [])) _
    exact X12.returnOut hx Bd.returns (hb hby d14_19) hr
  · show Q_rmTI Z u0 u1 u2 p3 h0 n0 _ T12.heap _
    rw [e12]
    exact ⟨rfl, N13, K14, f15, f16, f12_⟩

theorem ef_rmCo (m : MethodId) (x0 : Addr) : entryFrame m #[(.ref x0)] 1 = mkF m 0 #[rv x0] [] := by first | (simp [entryFrame, mkF, argsToLocals, Value.category]; done) | rfl
set_option maxRecDepth 65536 in
set_option maxHeartbeats 40000000 in
theorem rmCo (l : Launch) (Z : State) (a0 : Array Value) (hw : ∀ d ∈ tables_1, d.before a0 Z = true) (ws : List Jvm.Cond) (u0 : Addr) (cd : Int32) (zC : Int32) (h0 : Heap) (n0 : Nat) (Z0 : n0 ≤ h0.size) (P_F_u0_String_coder : Fld Z h0 u0 "java/lang/String" "coder" "B" (.int cd)) (P_S_String_COMPACT_STRINGS : Sta Z h0 "java/lang/String" "COMPACT_STRINGS" "Z" (.int zC)) (hz : ¬ (zC = (0 : Int32))) (hcd : cd = 0 ∨ cd = 1) :
    MetFree l own_y14 (head1 (Jvm.Cond.code own_y14 jdk_42_method_152_code 1 (some .byte) :: ws) ({ frames := 0, cells := 0, slots := 0, locals := 0 } : Room)) (fun a U => a = #[(.ref u0)] ∧ Z.Warmed39 U.vm ∧ U.heap = h0) (fun _ _ _ _ _ => True) (fun _ U o U' => ∃ v L, o = .returned v ∧ own_QP (some (.int cd)) h0 n0 v U'.heap L ∧ FrameEnd U o U' L ({ frames := 0, cells := 0, slots := 0, locals := 0 } : Room).cells ({ frames := 0, cells := 0, slots := 0, locals := 0 } : Room).slots) := by
  refine MetFree.of_bodySF (plainFor_of_name pn_18) hisR ?_
  intro p e s m args below meth c s₁ Bd hml0 hP hK
  obtain ⟨rfl, hZ, hh⟩ := hP
  have hx := Bd.exec
  have hby := Bd.bytes
  have hml : c.maxLocals = 1 := hml0
  have hown : s.vm.findClass "java/lang/String" = some m.cls := findClass_of_methodNamed Bd.named
  have hnm := (name_of_methodNamed Bd.named Bd.method).1
  have X0 : Stand p l e ({ frames := 0, cells := 0, slots := 0, locals := 0 } : Room) s m #[(.ref u0)] below meth c s₁ [] 0 0 := Stand.of_body Bd
  have e0 : s₁.heap = h0 := by rw [← hh, Bd.state]; rfl
  have N0 := Fr.nil n0
  have pre0 : ∀ t, Steps p.tables e below (s₁.setTop (mkF m 0 #[rv u0] [])) t → Steps p.tables e below (s₁.setTop (entryFrame m #[(.ref u0)] 1)) t := fun t k => castTop (ef_rmCo m u0) k
  obtain ⟨T1, X1, e1, st1⟩ := getS2 X0 hx hZ hown (host := "") (Or.inl (own_g hw 20 rfl)) Via.refl e0 P_S_String_COMPACT_STRINGS (g := (mkF m 0 #[rv u0] [])) rfl (hb hby d18_0)
  obtain ⟨T2, X2, e2, st2⟩ := getF X1 hx hZ hown (host := "") (Or.inl (own_g hw 51 rfl)) Via.refl e1 P_F_u0_String_coder (g := (mkF m 7 #[rv u0] [(.ref u0)])) rfl rfl (hb hby d18_7)
  obtain ⟨fs, hr, hrun, hended, hW, hsame⟩ := X2.leave (v := some (.int (nar .byte cd))) (fun h => by rw [Bd.returns] at h; cases h)
  refine ⟨_, _, pre0 _ ?_, hrun, hended, _, _, rfl, ?_, ⟨_, rfl⟩, hW, hsame.mono (by decide) (by decide)⟩
  · refine st1 _ ?_
    refine XS.ifNo X1.here hx rfl (hb hby d18_3) rfl ((if0 _ _).trans (feq hz).1) ?_
    refine XS.aloadN X1.here hx rfl (hb hby d18_6) rfl rfl ?_
    refine st2 _ ?_
    refine XS.goto X2.here hx rfl (pc0 := 10) (pc' := 14) rfl (hb hby d18_10) (by decide) (by decide) ?_
    show Steps _ _ _ (T2.setTop (mkF m 14 #[rv u0] [(.int cd)])) _
    exact retN X2 hx (t := .byte) Bd.returns (by simp) (hb hby d18_14) hr
  · show own_QP (some (.int cd)) h0 n0 _ T2.heap _
    rw [e2]
    exact ⟨(congrArg (fun z => some (Value.int z)) (own_nb hcd)), N0, rfl⟩

theorem ef_rmLe (m : MethodId) (x0 : Addr) : entryFrame m #[(.ref x0)] 1 = mkF m 0 #[rv x0] [] := by first | (simp [entryFrame, mkF, argsToLocals, Value.category]; done) | rfl
set_option maxRecDepth 65536 in
set_option maxHeartbeats 40000000 in
theorem rmLe (l : Launch) (Z : State) (a0 : Array Value) (hw : ∀ d ∈ tables_1, d.before a0 Z = true) (ws : List Jvm.Cond) (u0 : Addr) (t : Addr) (kt : ClassId) (z : Int32) (vs : List Value) (cd : Int32) (zC : Int32) (h0 : Heap) (n0 : Nat) (Z0 : n0 ≤ h0.size) (P_E_u0 : Exa Z h0 u0 "java/lang/String") (P_F_u0_String_value : Fld Z h0 u0 "java/lang/String" "value" "[B" (.ref t)) (P_F_u0_String_coder : Fld Z h0 u0 "java/lang/String" "coder" "B" (.int cd)) (P_G_t : Arv Z h0 t kt .byte z vs (.int 0)) (P_S_String_COMPACT_STRINGS : Sta Z h0 "java/lang/String" "COMPACT_STRINGS" "Z" (.int zC)) (hz : ¬ (zC = (0 : Int32))) (hcd : cd = 0 ∨ cd = 1) :
    MetFree l own_y15 (head1 (Jvm.Cond.code own_y15 jdk_42_method_54_code 1 (some .int) :: ws) ({ frames := 1, cells := 0, slots := 0, locals := 13 } : Room)) (fun a U => a = #[(.ref u0)] ∧ Z.Warmed39 U.vm ∧ U.heap = h0) (fun _ _ _ _ _ => True) (fun _ U o U' => ∃ v L, o = .returned v ∧ own_QP (some (.int (z >>> (cd &&& 31)))) h0 n0 v U'.heap L ∧ FrameEnd U o U' L ({ frames := 1, cells := 0, slots := 0, locals := 13 } : Room).cells ({ frames := 1, cells := 0, slots := 0, locals := 13 } : Room).slots) := by
  refine MetFree.of_bodySF (plainFor_of_name pn_17) hisR ?_
  intro p e s m args below meth c s₁ Bd hml0 hP hK
  obtain ⟨rfl, hZ, hh⟩ := hP
  have hx := Bd.exec
  have hby := Bd.bytes
  have hml : c.maxLocals = 1 := hml0
  have hown : s.vm.findClass "java/lang/String" = some m.cls := findClass_of_methodNamed Bd.named
  have hnm := (name_of_methodNamed Bd.named Bd.method).1
  have X0 : Stand p l e ({ frames := 1, cells := 0, slots := 0, locals := 13 } : Room) s m #[(.ref u0)] below meth c s₁ [] 0 0 := Stand.of_body Bd
  have e0 : s₁.heap = h0 := by rw [← hh, Bd.state]; rfl
  have N0 := Fr.nil n0
  have pre0 : ∀ t, Steps p.tables e below (s₁.setTop (mkF m 0 #[rv u0] [])) t → Steps p.tables e below (s₁.setTop (entryFrame m #[(.ref u0)] 1)) t := fun t k => castTop (ef_rmLe m u0) k
  obtain ⟨T1, X1, e1, st1⟩ := getF X0 hx hZ hown (host := "") (Or.inl (own_g hw 53 rfl)) Via.refl e0 P_F_u0_String_value (g := (mkF m 1 #[rv u0] [(.ref u0)])) rfl rfl (hb hby d17_1)
  obtain ⟨cl2, Ar2, qq2, S2, N2_, H2, G2⟩ := id P_G_t
  obtain ⟨cq4, kq4, q4a, q4b, q4c⟩ := isOf hZ e1 P_E_u0
  obtain ⟨_, _, ⟨T3, L3, k3, n3⟩, -, X3, ⟨Lc3, hQ3, l3, y3, z3⟩, st3⟩ := X1.virtualBack hx (y := own_y14) (z := own_y14) hown (mvT hZ (own_g hw 89 rfl)) (mvT hZ (own_g hw 90 rfl)) (notFace_of_selects (args := #[]) (mvT hZ (own_g hw 92 rfl))) (mvT hZ (own_g hw 92 rfl)) (mvT hZ (own_g hw 91 rfl)) (by decide) (backOf (W := 1) (rmCo l Z a0 hw [] u0 cd zC h0 n0 Z0 P_F_u0_String_coder P_S_String_COMPACT_STRINGS hz hcd) hZ (own_g hw 93 rfl) (own_g hw 8 rfl) (by decide) (by decide)) q4a q4c (g := (mkF m 6 #[rv u0] [(.ref u0), (.int z)])) rfl (by rw [hml]; rfl) (Steps.refl _) (argsL := []) (rest := [(.int z)]) (lenOf pd___B rfl) rfl (by show 2 * 0 + _ ≤ _; exact Nat.le_of_eq rfl) (hb hby d17_6) (fun _ _ => ⟨rfl, e1, (by decide : 0 + 0 ≤ _), (by decide : 0 + 0 ≤ _)⟩)
  dsimp only [Pt.U, Pt.locs, Pt.cells, Pt.slots] at X3 l3 y3 z3 st3 hQ3
  subst l3 y3 z3
  obtain ⟨rfl, N3q, e3⟩ := hQ3
  have N3 := Fr.app N0 N3q
  obtain ⟨fs, hr, hrun, hended, hW, hsame⟩ := X3.leave (v := some (.int (z >>> (cd &&& 31)))) (fun h => by rw [Bd.returns] at h; cases h)
  refine ⟨_, _, pre0 _ ?_, hrun, hended, _, _, rfl, ?_, ⟨_, rfl⟩, hW, hsame.mono (by decide) (by decide)⟩
  · refine XS.aloadN X0.here hx rfl (hb hby d17_0) rfl rfl ?_
    refine st1 _ ?_
    refine X1.arraylength hx (by rw [e1]; exact Ar2.1) (State.isArrayOf_alike hZ.alike Ar2.2.1) (g := (mkF m 4 #[rv u0] [(.ref t)])) rfl rfl (hb hby d17_4) _ ?_
    rw [len_of S2 N2_]
    refine XS.aloadN X1.here hx rfl (hb hby d17_5) rfl rfl ?_
    show Steps _ _ _ (T1.setTop (mkF m 6 #[rv u0] [(.ref u0), (.int z)])) _
    refine st3.trans ?_
    refine XS.ishr X3.here hx rfl (hb hby d17_9) rfl ?_
    show Steps _ _ _ (T3.setTop (mkF m 10 #[rv u0] [(.int (z >>> (cd &&& 31)))])) _
    exact retI X3 hx Bd.returns (hb hby d17_10) hr
  · show own_QP (some (.int (z >>> (cd &&& 31)))) h0 n0 _ T3.heap _
    rw [e3]
    exact ⟨rfl, N3, rfl⟩

theorem ef_rmEn (m : MethodId) (x0 : Addr) : entryFrame m #[(.ref x0)] 1 = mkF m 0 #[rv x0] [] := by first | (simp [entryFrame, mkF, argsToLocals, Value.category]; done) | rfl
set_option maxRecDepth 65536 in
set_option maxHeartbeats 40000000 in
theorem rmEn (l : Launch) (Z : State) (a0 : Array Value) (hw : ∀ d ∈ tables_1, d.before a0 Z = true) (ws : List Jvm.Cond) (u0 : Addr) (off : Int32) (sg : Addr) (t : Addr) (kt : ClassId) (z : Int32) (vs : List Value) (cd : Int32) (zC : Int32) (h0 : Heap) (n0 : Nat) (Z0 : n0 ≤ h0.size) (P_F_u0_Token_offset : Fld Z h0 u0 "com/example/apq/apq/jpql/Token" "offset" "I" (.int off)) (P_F_u0_Token_text : Fld Z h0 u0 "com/example/apq/apq/jpql/Token" "text" "Ljava/lang/String;" (.ref sg)) (P_E_sg : Exa Z h0 sg "java/lang/String") (P_F_sg_String_value : Fld Z h0 sg "java/lang/String" "value" "[B" (.ref t)) (P_F_sg_String_coder : Fld Z h0 sg "java/lang/String" "coder" "B" (.int cd)) (P_G_t : Arv Z h0 t kt .byte z vs (.int 0)) (P_S_String_COMPACT_STRINGS : Sta Z h0 "java/lang/String" "COMPACT_STRINGS" "Z" (.int zC)) (hz : ¬ (zC = (0 : Int32))) (hcd : cd = 0 ∨ cd = 1) :
    MetFree l own_y16 (head1 (Jvm.Cond.code own_y16 prog_97_method_2_code 1 (some .int) :: ws) ({ frames := 2, cells := 0, slots := 0, locals := 26 } : Room)) (fun a U => a = #[(.ref u0)] ∧ Z.Warmed39 U.vm ∧ U.heap = h0) (fun _ _ _ _ _ => True) (fun _ U o U' => ∃ v L, o = .returned v ∧ own_QP (some (.int (off + (z >>> (cd &&& 31))))) h0 n0 v U'.heap L ∧ FrameEnd U o U' L ({ frames := 2, cells := 0, slots := 0, locals := 26 } : Room).cells ({ frames := 2, cells := 0, slots := 0, locals := 26 } : Room).slots) := by
  refine MetFree.of_bodySF (plainFor_of_name pn_16) hisR ?_
  intro p e s m args below meth c s₁ Bd hml0 hP hK
  obtain ⟨rfl, hZ, hh⟩ := hP
  have hx := Bd.exec
  have hby := Bd.bytes
  have hml : c.maxLocals = 1 := hml0
  have hown : s.vm.findClass "com/example/apq/apq/jpql/Token" = some m.cls := findClass_of_methodNamed Bd.named
  have hnm := (name_of_methodNamed Bd.named Bd.method).1
  have X0 : Stand p l e ({ frames := 2, cells := 0, slots := 0, locals := 26 } : Room) s m #[(.ref u0)] below meth c s₁ [] 0 0 := Stand.of_body Bd
  have e0 : s₁.heap = h0 := by rw [← hh, Bd.state]; rfl
  have N0 := Fr.nil n0
  have pre0 : ∀ t, Steps p.tables e below (s₁.setTop (mkF m 0 #[rv u0] [])) t → Steps p.tables e below (s₁.setTop (entryFrame m #[(.ref u0)] 1)) t := fun t k => castTop (ef_rmEn m u0) k
  obtain ⟨T1, X1, e1, st1⟩ := getF X0 hx hZ hown (host := "") (Or.inl (own_g hw 77 rfl)) Via.refl e0 P_F_u0_Token_offset (g := (mkF m 1 #[rv u0] [(.ref u0)])) rfl rfl (hb hby d16_1)
  obtain ⟨T2, X2, e2, st2⟩ := getF X1 hx hZ hown (host := "") (Or.inl (own_g hw 75 rfl)) Via.refl e1 P_F_u0_Token_text (g := (mkF m 5 #[rv u0] [(.ref u0), (.int off)])) rfl rfl (hb hby d16_5)
  obtain ⟨cq4, kq4, q4a, q4b, q4c⟩ := isOf hZ e2 P_E_sg
  obtain ⟨_, _, ⟨T3, L3, k3, n3⟩, -, X3, ⟨Lc3, hQ3, l3, y3, z3⟩, st3⟩ := X2.virtualBack hx (y := own_y15) (z := own_y15) hown (mvT hZ (own_g hw 84 rfl)) (mvT hZ (own_g hw 85 rfl)) (notFace_of_selects (args := #[]) (mvT hZ (own_g hw 87 rfl))) (mvT hZ (own_g hw 87 rfl)) (mvT hZ (own_g hw 86 rfl)) (by decide) (backOf (W := 1) (rmLe l Z a0 hw [] sg t kt z vs cd zC h0 n0 Z0 P_E_sg P_F_sg_String_value P_F_sg_String_coder P_G_t P_S_String_COMPACT_STRINGS hz hcd) hZ (own_g hw 88 rfl) (own_g hw 8 rfl) (by decide) (by decide)) q4a q4c (g := (mkF m 8 #[rv u0] [(.ref sg), (.int off)])) rfl (by rw [hml]; rfl) (Steps.refl _) (argsL := []) (rest := [(.int off)]) (lenOf pd___I rfl) rfl (by show 2 * 0 + _ ≤ _; exact Nat.le_of_eq rfl) (hb hby d16_8) (fun _ _ => ⟨rfl, e2, (by decide : 0 + 0 ≤ _), (by decide : 0 + 0 ≤ _)⟩)
  dsimp only [Pt.U, Pt.locs, Pt.cells, Pt.slots] at X3 l3 y3 z3 st3 hQ3
  subst l3 y3 z3
  obtain ⟨rfl, N3q, e3⟩ := hQ3
  have N3 := Fr.app N0 N3q
  obtain ⟨fs, hr, hrun, hended, hW, hsame⟩ := X3.leave (v := some (.int (off + (z >>> (cd &&& 31))))) (fun h => by rw [Bd.returns] at h; cases h)
  refine ⟨_, _, pre0 _ ?_, hrun, hended, _, _, rfl, ?_, ⟨_, rfl⟩, hW, hsame.mono (by decide) (by decide)⟩
  · refine XS.aloadN X0.here hx rfl (hb hby d16_0) rfl rfl ?_
    refine st1 _ ?_
    refine XS.aloadN X1.here hx rfl (hb hby d16_4) rfl rfl ?_
    refine st2 _ ?_
    show Steps _ _ _ (T2.setTop (mkF m 8 #[rv u0] [(.ref sg), (.int off)])) _
    refine st3.trans ?_
    refine XS.iadd X3.here hx rfl (hb hby d16_11) rfl ?_
    show Steps _ _ _ (T3.setTop (mkF m 12 #[rv u0] [(.int (off + (z >>> (cd &&& 31))))])) _
    exact retI X3 hx Bd.returns (hb hby d16_12) hr
  · show own_QP (some (.int (off + (z >>> (cd &&& 31))))) h0 n0 _ T3.heap _
    rw [e3]
    exact ⟨rfl, N3, rfl⟩

theorem ef_rm0 (m : MethodId) (x0 : Int32) (x1 : Int32) (x2 : Int32) (x3 : Int64) : entryFrame m #[(.int x0), (.int x1), (.int x2), (.long x3)] maxLocals = mkF m 0 #[iv x0, iv x1, iv x2, .val (.long x3), .second, .unset, .unset, .unset, .unset, .unset, .unset, .unset, .unset] [] := by first | (simp [entryFrame, mkF, argsToLocals, Value.category, maxLocals]; done) | rfl
set_option maxRecDepth 65536 in
set_option maxHeartbeats 40000000 in
theorem rm0 (l : Launch) (Z : State) (a0 : Array Value) (hw : ∀ d ∈ tables_1, d.before a0 Z = true) (ws : List Jvm.Cond) (p0 : Int32) (p1 : Int32) (p2 : Int32) (q3 : Int64) (zC : Int32) (w0 : Addr) (w1 : Addr) (w2 : Addr) (w3 : Addr) (w4 : Addr) (w5 : Addr) (w6 : Addr) (h0 : Heap) (n0 : Nat) (Z0 : n0 ≤ h0.size) (P_S_StringUTF16__assertionsDisabled : Sta Z h0 "java/lang/StringUTF16" "$assertionsDisabled" "Z" (.int (1 : Int32))) (P_S_StringUTF16_HI_BYTE_SHIFT : Sta Z h0 "java/lang/StringUTF16" "HI_BYTE_SHIFT" "I" (.int (0 : Int32))) (P_S_StringUTF16_LO_BYTE_SHIFT : Sta Z h0 "java/lang/StringUTF16" "LO_BYTE_SHIFT" "I" (.int (8 : Int32))) (P_S_String_COMPACT_STRINGS : Sta Z h0 "java/lang/String" "COMPACT_STRINGS" "Z" (.int zC)) (hz : ¬ (zC = (0 : Int32))) (P_S_Token_Kind_WORD : Sta Z h0 "com/example/apq/apq/jpql/Token$Kind" "WORD" "Lcom/example/apq/apq/jpql/Token$Kind;" (.ref w0)) (P_S_Token_Kind_STRING : Sta Z h0 "com/example/apq/apq/jpql/Token$Kind" "STRING" "Lcom/example/apq/apq/jpql/Token$Kind;" (.ref w1)) (P_S_Token_Kind_NUMBER : Sta Z h0 "com/example/apq/apq/jpql/Token$Kind" "NUMBER" "Lcom/example/apq/apq/jpql/Token$Kind;" (.ref w2)) (P_S_Token_Kind_DATETIME : Sta Z h0 "com/example/apq/apq/jpql/Token$Kind" "DATETIME" "Lcom/example/apq/apq/jpql/Token$Kind;" (.ref w3)) (P_S_Token_Kind_PARAMETER : Sta Z h0 "com/example/apq/apq/jpql/Token$Kind" "PARAMETER" "Lcom/example/apq/apq/jpql/Token$Kind;" (.ref w4)) (P_S_Token_Kind_SYMBOL : Sta Z h0 "com/example/apq/apq/jpql/Token$Kind" "SYMBOL" "Lcom/example/apq/apq/jpql/Token$Kind;" (.ref w5)) (P_S_Token_Kind_END : Sta Z h0 "com/example/apq/apq/jpql/Token$Kind" "END" "Lcom/example/apq/apq/jpql/Token$Kind;" (.ref w6)) :
    MetFree l x (head1 (Jvm.Cond.code x code maxLocals ret :: ws) room_1) (fun a U => a = #[(.int p0), (.int p1), (.int p2), (.long q3)] ∧ Z.Warmed39 U.vm ∧ U.heap = h0 ∧ CHv Z own_EL U.vm h0) (fun _ _ _ _ _ => True) (fun _ U o U' => ∃ v L, o = .returned v ∧ own_Q0 n0 v U'.heap L ∧ ReturnedEndW U o U' L room_1.cells room_1.slots) := by
  refine MetFree.of_bodySF (plainFor_of_name pn_0) hisR ?_
  intro p e s m args below meth c s₁ Bd hml0 hP hK
  obtain ⟨rfl, hZ, hh, hCH⟩ := hP
  have hx := Bd.exec
  have hby := Bd.bytes
  have hml : c.maxLocals = 13 := hml0
  have hown : s.vm.findClass "com/example/apq/apq/jpql/TokenEndPinLaw" = some m.cls := findClass_of_methodNamed Bd.named
  have hnm := (name_of_methodNamed Bd.named Bd.method).1
  have X0 : Stand p l e room_1 s m #[(.int p0), (.int p1), (.int p2), (.long q3)] below meth c s₁ [] 0 0 := Stand.of_body Bd
  have e0 : s₁.heap = h0 := by rw [← hh, Bd.state]; rfl
  have N0 := Fr.nil n0
  have pre0 : ∀ t, Steps p.tables e below (s₁.setTop (mkF m 0 #[iv p0, iv p1, iv p2, .val (.long q3), .second, .unset, .unset, .unset, .unset, .unset, .unset, .unset, .unset] [])) t → Steps p.tables e below (s₁.setTop (entryFrame m #[(.int p0), (.int p1), (.int p2), (.long q3)] maxLocals)) t := fun t k => castTop (ef_rm0 m p0 p1 p2 q3) k
  have hEL : EW Z a0 own_EL := own_hEL hw
  have wS : ∀ a ∈ Bundle.stringAtoms, a.before a0 Z = true := fun d hd => hw d ((by decide +kernel : ∀ d ∈ Bundle.stringAtoms, d ∈ tables_1) d hd)
  have CH0 : CHr Z own_EL s.vm h0 s.vm h0 := CHr.refl hCH
  have hS0 : s.Since s.vm h0.size := (State.WarmedH.refl s).since _
  have pre1 : ∀ t, Steps p.tables e below (s₁.setTop (mkF m 8 #[iv p0, iv p1, iv p2, .val (.long q3), .second, iv ((p2 &&& (2147483647 : Int32)) % (5 : Int32)), .unset, .unset, .unset, .unset, .unset, .unset, .unset] [])) t → Steps p.tables e below (s₁.setTop (entryFrame m #[(.int p0), (.int p1), (.int p2), (.long q3)] maxLocals)) t := fun t kt => pre0 t (by
   refine XS.iloadN X0.here hx rfl (hb hby at_0) rfl ?_
   refine X0.ldcInt hx hown (mvT hZ (own_g hw 0 rfl)) (g := (mkF m 1 #[iv p0, iv p1, iv p2, .val (.long q3), .second, .unset, .unset, .unset, .unset, .unset, .unset, .unset, .unset] [(.int p2)])) rfl (hb hby at_1) _ ?_
   refine XS.iand X0.here hx rfl (hb hby at_3) rfl ?_
   refine XS.iconst X0.here hx rfl (hb hby at_4) ?_
   refine iremM X0 hx rfl (hb hby at_5) rfl (by decide : ¬ ((5 : Int32) = (0 : Int32))) ?_
   refine XS.istore X0.here hx rfl (hb hby at_6) rfl (l' := #[iv p0, iv p1, iv p2, .val (.long q3), .second, iv ((p2 &&& (2147483647 : Int32)) % (5 : Int32)), .unset, .unset, .unset, .unset, .unset, .unset, .unset]) rfl ?_
   exact kt)
  rcases own_mod5 p2 with hi | hi | hi | hi | hi
  · rw [hi] at pre1
    have pre2 : ∀ t, Steps p.tables e below (s₁.setTop (mkF m 63 #[iv p0, iv p1, iv p2, .val (.long q3), .second, iv (0 : Int32), iv (((q3 &&& (65535 : Int64)).toInt32).toUInt32.toUInt16.toUInt32.toInt32), iv (((((q3.toUInt64 >>> ((16 : Int32) &&& 0x3f).toInt64.toUInt64).toInt64) &&& (65535 : Int64)).toInt32).toUInt32.toUInt16.toUInt32.toInt32), iv (((((q3.toUInt64 >>> ((32 : Int32) &&& 0x3f).toInt64.toUInt64).toInt64) &&& (65535 : Int64)).toInt32).toUInt32.toUInt16.toUInt32.toInt32), iv (((((q3.toUInt64 >>> ((48 : Int32) &&& 0x3f).toInt64.toUInt64).toInt64) &&& (65535 : Int64)).toInt32).toUInt32.toUInt16.toUInt32.toInt32), .unset, .unset, .unset] [(.int (((((q3.toUInt64 >>> ((48 : Int32) &&& 0x3f).toInt64.toUInt64).toInt64) &&& (65535 : Int64)).toInt32).toUInt32.toUInt16.toUInt32.toInt32)), (.int (((((q3.toUInt64 >>> ((32 : Int32) &&& 0x3f).toInt64.toUInt64).toInt64) &&& (65535 : Int64)).toInt32).toUInt32.toUInt16.toUInt32.toInt32)), (.int (((((q3.toUInt64 >>> ((16 : Int32) &&& 0x3f).toInt64.toUInt64).toInt64) &&& (65535 : Int64)).toInt32).toUInt32.toUInt16.toUInt32.toInt32)), (.int (((q3 &&& (65535 : Int64)).toInt32).toUInt32.toUInt16.toUInt32.toInt32)), (.int (0 : Int32))])) t → Steps p.tables e below (s₁.setTop (entryFrame m #[(.int p0), (.int p1), (.int p2), (.long q3)] maxLocals)) t := fun t kt => pre1 t (by
     refine XS.lloadN X0.here hx rfl (hb hby at_8) rfl ?_
     refine X0.ldc2Long hx hown (mvT hZ (own_g hw 1 rfl)) (g := (mkF m 9 #[iv p0, iv p1, iv p2, .val (.long q3), .second, iv (0 : Int32), .unset, .unset, .unset, .unset, .unset, .unset, .unset] [(.long q3)])) rfl (hb hby at_9) _ ?_
     refine XS.land X0.here hx rfl (hb hby at_12) rfl ?_
     refine XS.l2i X0.here hx rfl (hb hby at_13) rfl ?_
     refine XS.i2c X0.here hx rfl (hb hby at_14) rfl ?_
     refine XS.istore X0.here hx rfl (hb hby at_15) rfl (l' := #[iv p0, iv p1, iv p2, .val (.long q3), .second, iv (0 : Int32), iv (((q3 &&& (65535 : Int64)).toInt32).toUInt32.toUInt16.toUInt32.toInt32), .unset, .unset, .unset, .unset, .unset, .unset]) rfl ?_
     refine XS.lloadN X0.here hx rfl (hb hby at_17) rfl ?_
     refine XS.bipush X0.here hx rfl (hb hby at_18) ?_
     refine XS.lushr X0.here hx rfl (hb hby at_20) rfl ?_
     refine X0.ldc2Long hx hown (mvT hZ (own_g hw 1 rfl)) (g := (mkF m 21 #[iv p0, iv p1, iv p2, .val (.long q3), .second, iv (0 : Int32), iv (((q3 &&& (65535 : Int64)).toInt32).toUInt32.toUInt16.toUInt32.toInt32), .unset, .unset, .unset, .unset, .unset, .unset] [(.long ((q3.toUInt64 >>> ((16 : Int32) &&& 0x3f).toInt64.toUInt64).toInt64))])) rfl (hb hby at_21) _ ?_
     refine XS.land X0.here hx rfl (hb hby at_24) rfl ?_
     refine XS.l2i X0.here hx rfl (hb hby at_25) rfl ?_
     refine XS.i2c X0.here hx rfl (hb hby at_26) rfl ?_
     refine XS.istore X0.here hx rfl (hb hby at_27) rfl (l' := #[iv p0, iv p1, iv p2, .val (.long q3), .second, iv (0 : Int32), iv (((q3 &&& (65535 : Int64)).toInt32).toUInt32.toUInt16.toUInt32.toInt32), iv (((((q3.toUInt64 >>> ((16 : Int32) &&& 0x3f).toInt64.toUInt64).toInt64) &&& (65535 : Int64)).toInt32).toUInt32.toUInt16.toUInt32.toInt32), .unset, .unset, .unset, .unset, .unset]) rfl ?_
     refine XS.lloadN X0.here hx rfl (hb hby at_29) rfl ?_
     refine XS.bipush X0.here hx rfl (hb hby at_30) ?_
     refine XS.lushr X0.here hx rfl (hb hby at_32) rfl ?_
     show Steps _ _ _ (s₁.setTop (mkF m 33 #[iv p0, iv p1, iv p2, .val (.long q3), .second, iv (0 : Int32), iv (((q3 &&& (65535 : Int64)).toInt32).toUInt32.toUInt16.toUInt32.toInt32), iv (((((q3.toUInt64 >>> ((16 : Int32) &&& 0x3f).toInt64.toUInt64).toInt64) &&& (65535 : Int64)).toInt32).toUInt32.toUInt16.toUInt32.toInt32), .unset, .unset, .unset, .unset, .unset] [(.long ((q3.toUInt64 >>> ((32 : Int32) &&& 0x3f).toInt64.toUInt64).toInt64))])) _
     refine X0.ldc2Long hx hown (mvT hZ (own_g hw 1 rfl)) (g := (mkF m 33 #[iv p0, iv p1, iv p2, .val (.long q3), .second, iv (0 : Int32), iv (((q3 &&& (65535 : Int64)).toInt32).toUInt32.toUInt16.toUInt32.toInt32), iv (((((q3.toUInt64 >>> ((16 : Int32) &&& 0x3f).toInt64.toUInt64).toInt64) &&& (65535 : Int64)).toInt32).toUInt32.toUInt16.toUInt32.toInt32), .unset, .unset, .unset, .unset, .unset] [(.long ((q3.toUInt64 >>> ((32 : Int32) &&& 0x3f).toInt64.toUInt64).toInt64))])) rfl (hb hby at_33) _ ?_
     refine XS.land X0.here hx rfl (hb hby at_36) rfl ?_
     refine XS.l2i X0.here hx rfl (hb hby at_37) rfl ?_
     refine XS.i2c X0.here hx rfl (hb hby at_38) rfl ?_
     refine XS.istore X0.here hx rfl (hb hby at_39) rfl (l' := #[iv p0, iv p1, iv p2, .val (.long q3), .second, iv (0 : Int32), iv (((q3 &&& (65535 : Int64)).toInt32).toUInt32.toUInt16.toUInt32.toInt32), iv (((((q3.toUInt64 >>> ((16 : Int32) &&& 0x3f).toInt64.toUInt64).toInt64) &&& (65535 : Int64)).toInt32).toUInt32.toUInt16.toUInt32.toInt32), iv (((((q3.toUInt64 >>> ((32 : Int32) &&& 0x3f).toInt64.toUInt64).toInt64) &&& (65535 : Int64)).toInt32).toUInt32.toUInt16.toUInt32.toInt32), .unset, .unset, .unset, .unset]) rfl ?_
     refine XS.lloadN X0.here hx rfl (hb hby at_41) rfl ?_
     refine XS.bipush X0.here hx rfl (hb hby at_42) ?_
     refine XS.lushr X0.here hx rfl (hb hby at_44) rfl ?_
     refine X0.ldc2Long hx hown (mvT hZ (own_g hw 1 rfl)) (g := (mkF m 45 #[iv p0, iv p1, iv p2, .val (.long q3), .second, iv (0 : Int32), iv (((q3 &&& (65535 : Int64)).toInt32).toUInt32.toUInt16.toUInt32.toInt32), iv (((((q3.toUInt64 >>> ((16 : Int32) &&& 0x3f).toInt64.toUInt64).toInt64) &&& (65535 : Int64)).toInt32).toUInt32.toUInt16.toUInt32.toInt32), iv (((((q3.toUInt64 >>> ((32 : Int32) &&& 0x3f).toInt64.toUInt64).toInt64) &&& (65535 : Int64)).toInt32).toUInt32.toUInt16.toUInt32.toInt32), .unset, .unset, .unset, .unset] [(.long ((q3.toUInt64 >>> ((48 : Int32) &&& 0x3f).toInt64.toUInt64).toInt64))])) rfl (hb hby at_45) _ ?_
     refine XS.land X0.here hx rfl (hb hby at_48) rfl ?_
     refine XS.l2i X0.here hx rfl (hb hby at_49) rfl ?_
     refine XS.i2c X0.here hx rfl (hb hby at_50) rfl ?_
     refine XS.istore X0.here hx rfl (hb hby at_51) rfl (l' := #[iv p0, iv p1, iv p2, .val (.long q3), .second, iv (0 : Int32), iv (((q3 &&& (65535 : Int64)).toInt32).toUInt32.toUInt16.toUInt32.toInt32), iv (((((q3.toUInt64 >>> ((16 : Int32) &&& 0x3f).toInt64.toUInt64).toInt64) &&& (65535 : Int64)).toInt32).toUInt32.toUInt16.toUInt32.toInt32), iv (((((q3.toUInt64 >>> ((32 : Int32) &&& 0x3f).toInt64.toUInt64).toInt64) &&& (65535 : Int64)).toInt32).toUInt32.toUInt16.toUInt32.toInt32), iv (((((q3.toUInt64 >>> ((48 : Int32) &&& 0x3f).toInt64.toUInt64).toInt64) &&& (65535 : Int64)).toInt32).toUInt32.toUInt16.toUInt32.toInt32), .unset, .unset, .unset]) rfl ?_
     refine XS.iload X0.here hx rfl (hb hby at_53) rfl ?_
     refine XS.iload X0.here hx rfl (hb hby at_55) rfl ?_
     refine XS.iload X0.here hx rfl (hb hby at_57) rfl ?_
     refine XS.iload X0.here hx rfl (hb hby at_59) rfl ?_
     refine XS.iload X0.here hx rfl (hb hby at_61) rfl ?_
     exact kt)
    obtain ⟨_, _, ⟨T3, L3, k3, n3⟩, -, Xw3, hSw3, gr3, ⟨Lc3, hQ3, l3, y3, z3, CHq3⟩, st3⟩ := callSS X0 hx (y := own_y10) hown (mvT hZ (own_g hw 2 rfl)) (mvT hZ (own_g hw 3 rfl)) (mvT hZ (own_g hw 4 rfl)) (mvT hZ (own_g hw 5 rfl)) (by decide) (backOfSH (W := 0) (rmMk_0 l Z a0 hw [] (((q3 &&& (65535 : Int64)).toInt32).toUInt32.toUInt16.toUInt32.toInt32) (((((q3.toUInt64 >>> ((16 : Int32) &&& 0x3f).toInt64.toUInt64).toInt64) &&& (65535 : Int64)).toInt32).toUInt32.toUInt16.toUInt32.toInt32) (((((q3.toUInt64 >>> ((32 : Int32) &&& 0x3f).toInt64.toUInt64).toInt64) &&& (65535 : Int64)).toInt32).toUInt32.toUInt16.toUInt32.toInt32) (((((q3.toUInt64 >>> ((48 : Int32) &&& 0x3f).toInt64.toUInt64).toInt64) &&& (65535 : Int64)).toInt32).toUInt32.toUInt16.toUInt32.toInt32) h0 n0 Z0 ) hZ (own_g hw 5 rfl) (own_g hw 4 rfl) (by decide) (by decide) hEL CH0.1) (g := (mkF m 63 #[iv p0, iv p1, iv p2, .val (.long q3), .second, iv (0 : Int32), iv (((q3 &&& (65535 : Int64)).toInt32).toUInt32.toUInt16.toUInt32.toInt32), iv (((((q3.toUInt64 >>> ((16 : Int32) &&& 0x3f).toInt64.toUInt64).toInt64) &&& (65535 : Int64)).toInt32).toUInt32.toUInt16.toUInt32.toInt32), iv (((((q3.toUInt64 >>> ((32 : Int32) &&& 0x3f).toInt64.toUInt64).toInt64) &&& (65535 : Int64)).toInt32).toUInt32.toUInt16.toUInt32.toInt32), iv (((((q3.toUInt64 >>> ((48 : Int32) &&& 0x3f).toInt64.toUInt64).toInt64) &&& (65535 : Int64)).toInt32).toUInt32.toUInt16.toUInt32.toInt32), .unset, .unset, .unset] [(.int (((((q3.toUInt64 >>> ((48 : Int32) &&& 0x3f).toInt64.toUInt64).toInt64) &&& (65535 : Int64)).toInt32).toUInt32.toUInt16.toUInt32.toInt32)), (.int (((((q3.toUInt64 >>> ((32 : Int32) &&& 0x3f).toInt64.toUInt64).toInt64) &&& (65535 : Int64)).toInt32).toUInt32.toUInt16.toUInt32.toInt32)), (.int (((((q3.toUInt64 >>> ((16 : Int32) &&& 0x3f).toInt64.toUInt64).toInt64) &&& (65535 : Int64)).toInt32).toUInt32.toUInt16.toUInt32.toInt32)), (.int (((q3 &&& (65535 : Int64)).toInt32).toUInt32.toUInt16.toUInt32.toInt32)), (.int (0 : Int32))])) rfl (by rw [hml]; rfl) (argsL := [(.int (0 : Int32)), (.int (((q3 &&& (65535 : Int64)).toInt32).toUInt32.toUInt16.toUInt32.toInt32)), (.int (((((q3.toUInt64 >>> ((16 : Int32) &&& 0x3f).toInt64.toUInt64).toInt64) &&& (65535 : Int64)).toInt32).toUInt32.toUInt16.toUInt32.toInt32)), (.int (((((q3.toUInt64 >>> ((32 : Int32) &&& 0x3f).toInt64.toUInt64).toInt64) &&& (65535 : Int64)).toInt32).toUInt32.toUInt16.toUInt32.toInt32)), (.int (((((q3.toUInt64 >>> ((48 : Int32) &&& 0x3f).toInt64.toUInt64).toInt64) &&& (65535 : Int64)).toInt32).toUInt32.toUInt16.toUInt32.toInt32))]) (rest := []) (lenOf pd__ICCCC_Ljava_lang_String_ rfl) rfl (by show 2 * 0 + _ ≤ _; exact Nat.le_of_eq rfl) (hb hby at_63) (fun _ _ => ⟨rfl, e0, (by decide : 0 + 6 ≤ _), (by decide : 0 + 12 ≤ _)⟩)
    dsimp only [Pt.U, Pt.locs, Pt.cells, Pt.slots] at Xw3 hSw3 gr3 l3 y3 z3 st3 hQ3 CHq3
    subst l3 y3 z3
    obtain ⟨X3, hS3, hZ3, hown3⟩ := rebS hS0 (by rw [e0]; exact (Nat.le_refl h0.size)) Xw3 hSw3 gr3 hZ hown
    obtain ⟨sg_3, t_3, kt_3, vs_3, rfl, N3q, K3, sx3_0, f4, f5, f6, f7⟩ := hQ3
    have osg_3 : n0 ≤ sg_3 := Nat.le_trans Z0 sx3_0
    have zsg_3 : h0.size ≤ sg_3 := Nat.le_trans (Keep.refl h0 []).1 sx3_0
    have KK3 : Keep h0 T3.heap [] := Keep.trans (Keep.refl h0 []) K3 all0
    have CH8 : CHr Z own_EL s.vm h0 T3.vm T3.heap := CH0.trans CHq3
    have N3 := Fr.app N0 N3q
    have pre9 : ∀ t, Steps p.tables e below (T3.setTop (mkF m 75 #[iv p0, iv p1, iv p2, .val (.long q3), .second, iv (0 : Int32), iv (((q3 &&& (65535 : Int64)).toInt32).toUInt32.toUInt16.toUInt32.toInt32), iv (((((q3.toUInt64 >>> ((16 : Int32) &&& 0x3f).toInt64.toUInt64).toInt64) &&& (65535 : Int64)).toInt32).toUInt32.toUInt16.toUInt32.toInt32), iv (((((q3.toUInt64 >>> ((32 : Int32) &&& 0x3f).toInt64.toUInt64).toInt64) &&& (65535 : Int64)).toInt32).toUInt32.toUInt16.toUInt32.toInt32), iv (((((q3.toUInt64 >>> ((48 : Int32) &&& 0x3f).toInt64.toUInt64).toInt64) &&& (65535 : Int64)).toInt32).toUInt32.toUInt16.toUInt32.toInt32), rv sg_3, .unset, .unset] [(.int ((p0 &&& (2147483647 : Int32)) % (7 : Int32)))])) t → Steps p.tables e below (s₁.setTop (entryFrame m #[(.int p0), (.int p1), (.int p2), (.long q3)] maxLocals)) t := fun t kt => pre2 t (by
     show Steps _ _ _ (s₁.setTop (mkF m 63 #[iv p0, iv p1, iv p2, .val (.long q3), .second, iv (0 : Int32), iv (((q3 &&& (65535 : Int64)).toInt32).toUInt32.toUInt16.toUInt32.toInt32), iv (((((q3.toUInt64 >>> ((16 : Int32) &&& 0x3f).toInt64.toUInt64).toInt64) &&& (65535 : Int64)).toInt32).toUInt32.toUInt16.toUInt32.toInt32), iv (((((q3.toUInt64 >>> ((32 : Int32) &&& 0x3f).toInt64.toUInt64).toInt64) &&& (65535 : Int64)).toInt32).toUInt32.toUInt16.toUInt32.toInt32), iv (((((q3.toUInt64 >>> ((48 : Int32) &&& 0x3f).toInt64.toUInt64).toInt64) &&& (65535 : Int64)).toInt32).toUInt32.toUInt16.toUInt32.toInt32), .unset, .unset, .unset] [(.int (((((q3.toUInt64 >>> ((48 : Int32) &&& 0x3f).toInt64.toUInt64).toInt64) &&& (65535 : Int64)).toInt32).toUInt32.toUInt16.toUInt32.toInt32)), (.int (((((q3.toUInt64 >>> ((32 : Int32) &&& 0x3f).toInt64.toUInt64).toInt64) &&& (65535 : Int64)).toInt32).toUInt32.toUInt16.toUInt32.toInt32)), (.int (((((q3.toUInt64 >>> ((16 : Int32) &&& 0x3f).toInt64.toUInt64).toInt64) &&& (65535 : Int64)).toInt32).toUInt32.toUInt16.toUInt32.toInt32)), (.int (((q3 &&& (65535 : Int64)).toInt32).toUInt32.toUInt16.toUInt32.toInt32)), (.int (0 : Int32))])) _
     refine st3.trans ?_
     refine XS.astore X3.here hx rfl (hb hby at_66) rfl rfl (l' := #[iv p0, iv p1, iv p2, .val (.long q3), .second, iv (0 : Int32), iv (((q3 &&& (65535 : Int64)).toInt32).toUInt32.toUInt16.toUInt32.toInt32), iv (((((q3.toUInt64 >>> ((16 : Int32) &&& 0x3f).toInt64.toUInt64).toInt64) &&& (65535 : Int64)).toInt32).toUInt32.toUInt16.toUInt32.toInt32), iv (((((q3.toUInt64 >>> ((32 : Int32) &&& 0x3f).toInt64.toUInt64).toInt64) &&& (65535 : Int64)).toInt32).toUInt32.toUInt16.toUInt32.toInt32), iv (((((q3.toUInt64 >>> ((48 : Int32) &&& 0x3f).toInt64.toUInt64).toInt64) &&& (65535 : Int64)).toInt32).toUInt32.toUInt16.toUInt32.toInt32), rv sg_3, .unset, .unset]) rfl ?_
     refine XS.iloadN X3.here hx rfl (hb hby at_68) rfl ?_
     refine X3.ldcInt hx hown3 (mvT hZ3 (own_g hw 0 rfl)) (g := (mkF m 69 #[iv p0, iv p1, iv p2, .val (.long q3), .second, iv (0 : Int32), iv (((q3 &&& (65535 : Int64)).toInt32).toUInt32.toUInt16.toUInt32.toInt32), iv (((((q3.toUInt64 >>> ((16 : Int32) &&& 0x3f).toInt64.toUInt64).toInt64) &&& (65535 : Int64)).toInt32).toUInt32.toUInt16.toUInt32.toInt32), iv (((((q3.toUInt64 >>> ((32 : Int32) &&& 0x3f).toInt64.toUInt64).toInt64) &&& (65535 : Int64)).toInt32).toUInt32.toUInt16.toUInt32.toInt32), iv (((((q3.toUInt64 >>> ((48 : Int32) &&& 0x3f).toInt64.toUInt64).toInt64) &&& (65535 : Int64)).toInt32).toUInt32.toUInt16.toUInt32.toInt32), rv sg_3, .unset, .unset] [(.int p0)])) rfl (hb hby at_69) _ ?_
     refine XS.iand X3.here hx rfl (hb hby at_71) rfl ?_
     refine XS.bipush X3.here hx rfl (hb hby at_72) ?_
     refine iremM X3 hx rfl (hb hby at_74) rfl (by decide : ¬ ((7 : Int32) = (0 : Int32))) ?_
     exact kt)
    have f10 : Sta Z T3.heap "com/example/apq/apq/jpql/Token$Kind" "WORD" "Lcom/example/apq/apq/jpql/Token$Kind;" (.ref w0) := (own_staKeep P_S_Token_Kind_WORD K3 ns0)
    have f11 : Sta Z T3.heap "com/example/apq/apq/jpql/Token$Kind" "STRING" "Lcom/example/apq/apq/jpql/Token$Kind;" (.ref w1) := (own_staKeep P_S_Token_Kind_STRING K3 ns0)
    have f12 : Sta Z T3.heap "com/example/apq/apq/jpql/Token$Kind" "NUMBER" "Lcom/example/apq/apq/jpql/Token$Kind;" (.ref w2) := (own_staKeep P_S_Token_Kind_NUMBER K3 ns0)
    have f13 : Sta Z T3.heap "com/example/apq/apq/jpql/Token$Kind" "DATETIME" "Lcom/example/apq/apq/jpql/Token$Kind;" (.ref w3) := (own_staKeep P_S_Token_Kind_DATETIME K3 ns0)
    have f14 : Sta Z T3.heap "com/example/apq/apq/jpql/Token$Kind" "PARAMETER" "Lcom/example/apq/apq/jpql/Token$Kind;" (.ref w4) := (own_staKeep P_S_Token_Kind_PARAMETER K3 ns0)
    have f15 : Sta Z T3.heap "com/example/apq/apq/jpql/Token$Kind" "SYMBOL" "Lcom/example/apq/apq/jpql/Token$Kind;" (.ref w5) := (own_staKeep P_S_Token_Kind_SYMBOL K3 ns0)
    have f16 : Sta Z T3.heap "com/example/apq/apq/jpql/Token$Kind" "END" "Lcom/example/apq/apq/jpql/Token$Kind;" (.ref w6) := (own_staKeep P_S_Token_Kind_END K3 ns0)
    have f17 : n0 ≤ T3.heap.size := (Nat.le_trans Z0 K3.1)
    obtain ⟨_, _, ⟨T18, L18, k18, n18⟩, -, X18, ⟨Lc18, hQ18, l18, y18, z18⟩, st18⟩ := Jvm.LawKit.callS X3 hx (y := own_y11) hown3 (mvT hZ3 (own_g hw 55 rfl)) (mvT hZ3 (own_g hw 56 rfl)) (mvT hZ3 (own_g hw 4 rfl)) (mvT hZ3 (own_g hw 57 rfl)) (by decide) (backOf (W := 0) (rmPK l Z a0 hw [] ((p0 &&& (2147483647 : Int32)) % (7 : Int32)) w0 w1 w2 w3 w4 w5 w6 T3.heap n0 f17 f10 f11 f12 f13 f14 f15 f16) hZ3 (own_g hw 57 rfl) (own_g hw 4 rfl) (by decide) (by decide)) (g := (mkF m 75 #[iv p0, iv p1, iv p2, .val (.long q3), .second, iv (0 : Int32), iv (((q3 &&& (65535 : Int64)).toInt32).toUInt32.toUInt16.toUInt32.toInt32), iv (((((q3.toUInt64 >>> ((16 : Int32) &&& 0x3f).toInt64.toUInt64).toInt64) &&& (65535 : Int64)).toInt32).toUInt32.toUInt16.toUInt32.toInt32), iv (((((q3.toUInt64 >>> ((32 : Int32) &&& 0x3f).toInt64.toUInt64).toInt64) &&& (65535 : Int64)).toInt32).toUInt32.toUInt16.toUInt32.toInt32), iv (((((q3.toUInt64 >>> ((48 : Int32) &&& 0x3f).toInt64.toUInt64).toInt64) &&& (65535 : Int64)).toInt32).toUInt32.toUInt16.toUInt32.toInt32), rv sg_3, .unset, .unset] [(.int ((p0 &&& (2147483647 : Int32)) % (7 : Int32)))])) rfl (by rw [hml]; rfl) (argsL := [(.int ((p0 &&& (2147483647 : Int32)) % (7 : Int32)))]) (rest := []) (lenOf pd__I_Lcom_example_apq_apq_jpql_Token_Kind_ rfl) rfl (by show 2 * 0 + _ ≤ _; exact Nat.le_of_eq rfl) (hb hby at_75) (fun _ _ => ⟨rfl, rfl, (by decide : 6 + 0 ≤ _), (by decide : 12 + 0 ≤ _)⟩)
    dsimp only [Pt.U, Pt.locs, Pt.cells, Pt.slots] at X18 l18 y18 z18 st18 hQ18
    subst l18 y18 z18
    obtain ⟨rfl, N18q, e18⟩ := hQ18
    have N18 := Fr.app N3 N18q
    obtain ⟨T19, h19, X19, e19, E19, A19, D19, U19, st19⟩ := newO X18 hx hZ3 hown3 (own_g hw 61 rfl) (own_g hw 62 rfl) (own_g hw 63 rfl) e18 (g := (mkF m 80 #[iv p0, iv p1, iv p2, .val (.long q3), .second, iv (0 : Int32), iv (((q3 &&& (65535 : Int64)).toInt32).toUInt32.toUInt16.toUInt32.toInt32), iv (((((q3.toUInt64 >>> ((16 : Int32) &&& 0x3f).toInt64.toUInt64).toInt64) &&& (65535 : Int64)).toInt32).toUInt32.toUInt16.toUInt32.toInt32), iv (((((q3.toUInt64 >>> ((32 : Int32) &&& 0x3f).toInt64.toUInt64).toInt64) &&& (65535 : Int64)).toInt32).toUInt32.toUInt16.toUInt32.toInt32), iv (((((q3.toUInt64 >>> ((48 : Int32) &&& 0x3f).toInt64.toUInt64).toInt64) &&& (65535 : Int64)).toInt32).toUInt32.toUInt16.toUInt32.toInt32), rv sg_3, rv (own_pk ((p0 &&& (2147483647 : Int32)) % (7 : Int32)) w0 w1 w2 w3 w4 w5 w6), .unset] [])) rfl (hb hby at_80) (by decide) (by decide)
    obtain ⟨b19, g19⟩ : ∃ z, z = T3.heap.size := ⟨_, rfl⟩
    rw [← g19] at A19 D19 U19 st19
    have ne20 : sg_3 ≠ b19 := Nat.ne_of_lt (Nat.lt_of_lt_of_le f4.lt (Nat.le_of_eq g19.symm))
    have ne21 : t_3 ≠ b19 := Nat.ne_of_lt (Nat.lt_of_lt_of_le f7.lt (Nat.le_of_eq g19.symm))
    have o19 : n0 ≤ b19 := Nat.le_trans f17 (Nat.le_of_eq g19.symm)
    have z19 : h0.size ≤ b19 := Nat.le_trans KK3.1 (Nat.le_of_eq g19.symm)
    have CH22 : CHr Z own_EL s.vm h0 T3.vm h19 := CH8.trans (CHr.ext E19 CH8.1)
    have Yb23 : Safe Z own_EL T3.vm h19 b19 := Safe.ext E19 CH8.1 (Safe.new (Nat.le_of_eq g19.symm))
    have K19 : Keep h0 h19 [] := KK3.ext E19
    have f24 : Fld Z h19 b19 "com/example/apq/apq/jpql/Token" "kind" "Lcom/example/apq/apq/jpql/Token$Kind;" .null := D19 (Or.inr (own_g hw 74 rfl)) (ty := (.object "com/example/apq/apq/jpql/Token$Kind")) (by decide)
    have f25 : Fld Z h19 b19 "com/example/apq/apq/jpql/Token" "text" "Ljava/lang/String;" .null := D19 (Or.inr (own_g hw 76 rfl)) (ty := (.object "java/lang/String")) (by decide)
    have f26 : Fld Z h19 b19 "com/example/apq/apq/jpql/Token" "offset" "I" (.int (0 : Int32)) := D19 (Or.inr (own_g hw 78 rfl)) (ty := .int) (by decide)
    have pre27 : ∀ t, Steps p.tables e below (T19.setTop (mkF m 89 #[iv p0, iv p1, iv p2, .val (.long q3), .second, iv (0 : Int32), iv (((q3 &&& (65535 : Int64)).toInt32).toUInt32.toUInt16.toUInt32.toInt32), iv (((((q3.toUInt64 >>> ((16 : Int32) &&& 0x3f).toInt64.toUInt64).toInt64) &&& (65535 : Int64)).toInt32).toUInt32.toUInt16.toUInt32.toInt32), iv (((((q3.toUInt64 >>> ((32 : Int32) &&& 0x3f).toInt64.toUInt64).toInt64) &&& (65535 : Int64)).toInt32).toUInt32.toUInt16.toUInt32.toInt32), iv (((((q3.toUInt64 >>> ((48 : Int32) &&& 0x3f).toInt64.toUInt64).toInt64) &&& (65535 : Int64)).toInt32).toUInt32.toUInt16.toUInt32.toInt32), rv sg_3, rv (own_pk ((p0 &&& (2147483647 : Int32)) % (7 : Int32)) w0 w1 w2 w3 w4 w5 w6), .unset] [(.int p1), (.ref sg_3), (.ref (own_pk ((p0 &&& (2147483647 : Int32)) % (7 : Int32)) w0 w1 w2 w3 w4 w5 w6)), (.ref b19), (.ref b19)])) t → Steps p.tables e below (s₁.setTop (entryFrame m #[(.int p0), (.int p1), (.int p2), (.long q3)] maxLocals)) t := fun t kt => pre9 t (by
     show Steps _ _ _ (T3.setTop (mkF m 75 #[iv p0, iv p1, iv p2, .val (.long q3), .second, iv (0 : Int32), iv (((q3 &&& (65535 : Int64)).toInt32).toUInt32.toUInt16.toUInt32.toInt32), iv (((((q3.toUInt64 >>> ((16 : Int32) &&& 0x3f).toInt64.toUInt64).toInt64) &&& (65535 : Int64)).toInt32).toUInt32.toUInt16.toUInt32.toInt32), iv (((((q3.toUInt64 >>> ((32 : Int32) &&& 0x3f).toInt64.toUInt64).toInt64) &&& (65535 : Int64)).toInt32).toUInt32.toUInt16.toUInt32.toInt32), iv (((((q3.toUInt64 >>> ((48 : Int32) &&& 0x3f).toInt64.toUInt64).toInt64) &&& (65535 : Int64)).toInt32).toUInt32.toUInt16.toUInt32.toInt32), rv sg_3, .unset, .unset] [(.int ((p0 &&& (2147483647 : Int32)) % (7 : Int32)))])) _
     refine st18 _ ?_
     show Steps _ _ _ (T18.setTop (mkF m 78 #[iv p0, iv p1, iv p2, .val (.long q3), .second, iv (0 : Int32), iv (((q3 &&& (65535 : Int64)).toInt32).toUInt32.toUInt16.toUInt32.toInt32), iv (((((q3.toUInt64 >>> ((16 : Int32) &&& 0x3f).toInt64.toUInt64).toInt64) &&& (65535 : Int64)).toInt32).toUInt32.toUInt16.toUInt32.toInt32), iv (((((q3.toUInt64 >>> ((32 : Int32) &&& 0x3f).toInt64.toUInt64).toInt64) &&& (65535 : Int64)).toInt32).toUInt32.toUInt16.toUInt32.toInt32), iv (((((q3.toUInt64 >>> ((48 : Int32) &&& 0x3f).toInt64.toUInt64).toInt64) &&& (65535 : Int64)).toInt32).toUInt32.toUInt16.toUInt32.toInt32), rv sg_3, .unset, .unset] [(.ref (own_pk ((p0 &&& (2147483647 : Int32)) % (7 : Int32)) w0 w1 w2 w3 w4 w5 w6))])) _
     refine XS.astore X18.here hx rfl (hb hby at_78) rfl rfl (l' := #[iv p0, iv p1, iv p2, .val (.long q3), .second, iv (0 : Int32), iv (((q3 &&& (65535 : Int64)).toInt32).toUInt32.toUInt16.toUInt32.toInt32), iv (((((q3.toUInt64 >>> ((16 : Int32) &&& 0x3f).toInt64.toUInt64).toInt64) &&& (65535 : Int64)).toInt32).toUInt32.toUInt16.toUInt32.toInt32), iv (((((q3.toUInt64 >>> ((32 : Int32) &&& 0x3f).toInt64.toUInt64).toInt64) &&& (65535 : Int64)).toInt32).toUInt32.toUInt16.toUInt32.toInt32), iv (((((q3.toUInt64 >>> ((48 : Int32) &&& 0x3f).toInt64.toUInt64).toInt64) &&& (65535 : Int64)).toInt32).toUInt32.toUInt16.toUInt32.toInt32), rv sg_3, rv (own_pk ((p0 &&& (2147483647 : Int32)) % (7 : Int32)) w0 w1 w2 w3 w4 w5 w6), .unset]) rfl ?_
     refine st19 _ ?_
     refine XS.dup X19.here hx rfl (hb hby at_83) rfl rfl ?_
     refine XS.aload X19.here hx rfl (hb hby at_84) rfl rfl ?_
     refine XS.aload X19.here hx rfl (hb hby at_86) rfl rfl ?_
     refine XS.iloadN X19.here hx rfl (hb hby at_88) rfl ?_
     exact kt)
    have f28 : n0 ≤ h19.size := (Nat.le_trans f17 E19.1)
    obtain ⟨_, _, ⟨T29, L29, k29, n29⟩, -, X29, ⟨Lc29, hQ29, l29, y29, z29⟩, st29⟩ := X19.specialBack hx (y := own_y13) rfl hown3 (mvT hZ3 (own_g hw 64 rfl)) (mvT hZ3 (own_g hw 65 rfl)) (mvT hZ3 (own_g hw 66 rfl)) (by decide) (backOf (W := 1) (rmTI l Z a0 hw [] b19 (own_pk ((p0 &&& (2147483647 : Int32)) % (7 : Int32)) w0 w1 w2 w3 w4 w5 w6) sg_3 p1 h19 n0 f28 A19 f24 f25 f26 o19) hZ3 (own_g hw 66 rfl) (own_g hw 63 rfl) (by decide) (by decide)) (g := (mkF m 89 #[iv p0, iv p1, iv p2, .val (.long q3), .second, iv (0 : Int32), iv (((q3 &&& (65535 : Int64)).toInt32).toUInt32.toUInt16.toUInt32.toInt32), iv (((((q3.toUInt64 >>> ((16 : Int32) &&& 0x3f).toInt64.toUInt64).toInt64) &&& (65535 : Int64)).toInt32).toUInt32.toUInt16.toUInt32.toInt32), iv (((((q3.toUInt64 >>> ((32 : Int32) &&& 0x3f).toInt64.toUInt64).toInt64) &&& (65535 : Int64)).toInt32).toUInt32.toUInt16.toUInt32.toInt32), iv (((((q3.toUInt64 >>> ((48 : Int32) &&& 0x3f).toInt64.toUInt64).toInt64) &&& (65535 : Int64)).toInt32).toUInt32.toUInt16.toUInt32.toInt32), rv sg_3, rv (own_pk ((p0 &&& (2147483647 : Int32)) % (7 : Int32)) w0 w1 w2 w3 w4 w5 w6), .unset] [(.int p1), (.ref sg_3), (.ref (own_pk ((p0 &&& (2147483647 : Int32)) % (7 : Int32)) w0 w1 w2 w3 w4 w5 w6)), (.ref b19), (.ref b19)])) rfl (by rw [hml]; rfl) (Steps.refl _) (a := b19) (argsL := [(.ref (own_pk ((p0 &&& (2147483647 : Int32)) % (7 : Int32)) w0 w1 w2 w3 w4 w5 w6)), (.ref sg_3), (.int p1)]) (rest := [(.ref b19)]) (lenOf pd__Lcom_example_apq_apq_jpql_Token_Kind_Ljava_lang_String_I_V rfl) rfl (by show 2 * 0 + _ ≤ _; exact Nat.le_of_eq rfl) (hb hby at_89) (fun _ _ => ⟨rfl, e19, (by decide : 7 + 0 ≤ _), (by decide : 15 + 0 ≤ _)⟩)
    dsimp only [Pt.U, Pt.locs, Pt.cells, Pt.slots] at X29 l29 y29 z29 st29 hQ29
    subst l29 y29 z29
    obtain ⟨rfl, N29q, K29, f30, f31, f32⟩ := hQ29
    have KK29 : Keep h0 T29.heap [] := Keep.trans K19 K29 (allS (Or.inr z19) all0)
    have CH33 : CHr Z own_EL s.vm h0 T3.vm T29.heap := CH22.trans (CHr.keep K29 (sfS Yb23 sf0) CH22.1)
    have N29 := Fr.app N18 N29q
    have pre34 : ∀ t, Steps p.tables e below (T29.setTop (mkF m 96 #[iv p0, iv p1, iv p2, .val (.long q3), .second, iv (0 : Int32), iv (((q3 &&& (65535 : Int64)).toInt32).toUInt32.toUInt16.toUInt32.toInt32), iv (((((q3.toUInt64 >>> ((16 : Int32) &&& 0x3f).toInt64.toUInt64).toInt64) &&& (65535 : Int64)).toInt32).toUInt32.toUInt16.toUInt32.toInt32), iv (((((q3.toUInt64 >>> ((32 : Int32) &&& 0x3f).toInt64.toUInt64).toInt64) &&& (65535 : Int64)).toInt32).toUInt32.toUInt16.toUInt32.toInt32), iv (((((q3.toUInt64 >>> ((48 : Int32) &&& 0x3f).toInt64.toUInt64).toInt64) &&& (65535 : Int64)).toInt32).toUInt32.toUInt16.toUInt32.toInt32), rv sg_3, rv (own_pk ((p0 &&& (2147483647 : Int32)) % (7 : Int32)) w0 w1 w2 w3 w4 w5 w6), rv b19] [(.ref b19)])) t → Steps p.tables e below (s₁.setTop (entryFrame m #[(.int p0), (.int p1), (.int p2), (.long q3)] maxLocals)) t := fun t kt => pre27 t (by
     show Steps _ _ _ (T19.setTop (mkF m 89 #[iv p0, iv p1, iv p2, .val (.long q3), .second, iv (0 : Int32), iv (((q3 &&& (65535 : Int64)).toInt32).toUInt32.toUInt16.toUInt32.toInt32), iv (((((q3.toUInt64 >>> ((16 : Int32) &&& 0x3f).toInt64.toUInt64).toInt64) &&& (65535 : Int64)).toInt32).toUInt32.toUInt16.toUInt32.toInt32), iv (((((q3.toUInt64 >>> ((32 : Int32) &&& 0x3f).toInt64.toUInt64).toInt64) &&& (65535 : Int64)).toInt32).toUInt32.toUInt16.toUInt32.toInt32), iv (((((q3.toUInt64 >>> ((48 : Int32) &&& 0x3f).toInt64.toUInt64).toInt64) &&& (65535 : Int64)).toInt32).toUInt32.toUInt16.toUInt32.toInt32), rv sg_3, rv (own_pk ((p0 &&& (2147483647 : Int32)) % (7 : Int32)) w0 w1 w2 w3 w4 w5 w6), .unset] [(.int p1), (.ref sg_3), (.ref (own_pk ((p0 &&& (2147483647 : Int32)) % (7 : Int32)) w0 w1 w2 w3 w4 w5 w6)), (.ref b19), (.ref b19)])) _
     refine st29.trans ?_
     refine XS.astore X29.here hx rfl (hb hby at_92) rfl rfl (l' := #[iv p0, iv p1, iv p2, .val (.long q3), .second, iv (0 : Int32), iv (((q3 &&& (65535 : Int64)).toInt32).toUInt32.toUInt16.toUInt32.toInt32), iv (((((q3.toUInt64 >>> ((16 : Int32) &&& 0x3f).toInt64.toUInt64).toInt64) &&& (65535 : Int64)).toInt32).toUInt32.toUInt16.toUInt32.toInt32), iv (((((q3.toUInt64 >>> ((32 : Int32) &&& 0x3f).toInt64.toUInt64).toInt64) &&& (65535 : Int64)).toInt32).toUInt32.toUInt16.toUInt32.toInt32), iv (((((q3.toUInt64 >>> ((48 : Int32) &&& 0x3f).toInt64.toUInt64).toInt64) &&& (65535 : Int64)).toInt32).toUInt32.toUInt16.toUInt32.toInt32), rv sg_3, rv (own_pk ((p0 &&& (2147483647 : Int32)) % (7 : Int32)) w0 w1 w2 w3 w4 w5 w6), rv b19]) rfl ?_
     refine XS.aload X29.here hx rfl (hb hby at_94) rfl rfl ?_
     exact kt)
    have f35 : Exa Z T29.heap sg_3 "java/lang/String" := ((f4.ext E19).keep K29)
    have f36 : Fld Z T29.heap sg_3 "java/lang/String" "value" "[B" (.ref t_3) := ((f5.ext E19).keep K29 (ninS ne20 nin0))
    have f37 : Fld Z T29.heap sg_3 "java/lang/String" "coder" "B" (.int (0 : Int32)) := ((f6.ext E19).keep K29 (ninS ne20 nin0))
    have f38 : Arv Z T29.heap t_3 kt_3 .byte (0 : Int32) vs_3 (.int 0) := ((f7.ext E19).keep K29 (ninS ne21 nin0))
    have f39 : Sta Z T29.heap "java/lang/String" "COMPACT_STRINGS" "Z" (.int zC) := (own_staKeep ((own_staKeep P_S_String_COMPACT_STRINGS K3 ns0).ext E19) K29 (nsS A19.nostat ns0))
    have f40 : n0 ≤ T29.heap.size := (Nat.le_trans f28 K29.1)
    obtain ⟨cq42, kq42, q42a, q42b, q42c⟩ := isOf hZ3 rfl f30
    obtain ⟨_, _, ⟨T41, L41, k41, n41⟩, -, X41, ⟨Lc41, hQ41, l41, y41, z41⟩, st41⟩ := X29.virtualBack hx (y := own_y16) (z := own_y16) hown3 (mvT hZ3 (own_g hw 79 rfl)) (mvT hZ3 (own_g hw 80 rfl)) (notFace_of_selects (args := #[]) (mvT hZ3 (own_g hw 82 rfl))) (mvT hZ3 (own_g hw 82 rfl)) (mvT hZ3 (own_g hw 81 rfl)) (by decide) (backOf (W := 0) (rmEn l Z a0 hw [] b19 p1 sg_3 t_3 kt_3 (0 : Int32) vs_3 (0 : Int32) zC T29.heap n0 f40 f32 f31 f35 f36 f37 f38 f39 hz (Or.inl rfl)) hZ3 (own_g hw 83 rfl) (own_g hw 63 rfl) (by decide) (by decide)) q42a q42c (g := (mkF m 96 #[iv p0, iv p1, iv p2, .val (.long q3), .second, iv (0 : Int32), iv (((q3 &&& (65535 : Int64)).toInt32).toUInt32.toUInt16.toUInt32.toInt32), iv (((((q3.toUInt64 >>> ((16 : Int32) &&& 0x3f).toInt64.toUInt64).toInt64) &&& (65535 : Int64)).toInt32).toUInt32.toUInt16.toUInt32.toInt32), iv (((((q3.toUInt64 >>> ((32 : Int32) &&& 0x3f).toInt64.toUInt64).toInt64) &&& (65535 : Int64)).toInt32).toUInt32.toUInt16.toUInt32.toInt32), iv (((((q3.toUInt64 >>> ((48 : Int32) &&& 0x3f).toInt64.toUInt64).toInt64) &&& (65535 : Int64)).toInt32).toUInt32.toUInt16.toUInt32.toInt32), rv sg_3, rv (own_pk ((p0 &&& (2147483647 : Int32)) % (7 : Int32)) w0 w1 w2 w3 w4 w5 w6), rv b19] [(.ref b19)])) rfl (by rw [hml]; rfl) (Steps.refl _) (argsL := []) (rest := []) (lenOf pd___I rfl) rfl (by show 2 * 0 + _ ≤ _; exact Nat.le_of_eq rfl) (hb hby at_96) (fun _ _ => ⟨rfl, rfl, (by decide : 7 + 0 ≤ _), (by decide : 15 + 0 ≤ _)⟩)
    dsimp only [Pt.U, Pt.locs, Pt.cells, Pt.slots] at X41 l41 y41 z41 st41 hQ41
    subst l41 y41 z41
    obtain ⟨rfl, N41q, e41⟩ := hQ41
    have N41 := Fr.app N29 N41q
    obtain ⟨fs, hr, hrun, hended, hW, hsame⟩ := X41.leave (v := some (.int (1 : Int32))) (fun h => by rw [Bd.returns] at h; cases h)
    have f43 : T3.heap.size ≤ T29.heap.size := (Nat.le_trans (Nat.le_trans (Nat.le_refl _) E19.1) K29.1)
    have qE := hS3.ended (c := room_1.cells) (k := room_1.slots) hW (show _ ≤ T41.heap.size from (by rw [e41]; exact f43)) (hsame.mono (by decide) (by decide))
    refine ⟨_, _, pre34 _ ?_, hrun, hended, _, _, rfl, ?_, ⟨_, rfl⟩, qE.1, qE.2.1, qE.2.2⟩
    · show Steps _ _ _ (T29.setTop (mkF m 96 #[iv p0, iv p1, iv p2, .val (.long q3), .second, iv (0 : Int32), iv (((q3 &&& (65535 : Int64)).toInt32).toUInt32.toUInt16.toUInt32.toInt32), iv (((((q3.toUInt64 >>> ((16 : Int32) &&& 0x3f).toInt64.toUInt64).toInt64) &&& (65535 : Int64)).toInt32).toUInt32.toUInt16.toUInt32.toInt32), iv (((((q3.toUInt64 >>> ((32 : Int32) &&& 0x3f).toInt64.toUInt64).toInt64) &&& (65535 : Int64)).toInt32).toUInt32.toUInt16.toUInt32.toInt32), iv (((((q3.toUInt64 >>> ((48 : Int32) &&& 0x3f).toInt64.toUInt64).toInt64) &&& (65535 : Int64)).toInt32).toUInt32.toUInt16.toUInt32.toInt32), rv sg_3, rv (own_pk ((p0 &&& (2147483647 : Int32)) % (7 : Int32)) w0 w1 w2 w3 w4 w5 w6), rv b19] [(.ref b19)])) _
      refine st41.trans ?_
      refine XS.iloadN X41.here hx rfl (hb hby at_99) rfl ?_
      refine XS.iload X41.here hx rfl (hb hby at_100) rfl ?_
      refine XS.iadd X41.here hx rfl (hb hby at_102) rfl ?_
      refine XS.icmpNo X41.here hx rfl (hb hby at_103) rfl (teq (congrArg (fun q : Int32 => p1 + q) (by decide : ((0 : Int32) >>> ((0 : Int32) &&& 31)) = (0 : Int32)))).2 ?_
      refine XS.iconst X41.here hx rfl (hb hby at_106) ?_
      refine XS.goto X41.here hx rfl (pc0 := 107) (pc' := 111) rfl (hb hby at_107) (by decide) (by decide) ?_
      show Steps _ _ _ (T41.setTop (mkF m 111 #[iv p0, iv p1, iv p2, .val (.long q3), .second, iv (0 : Int32), iv (((q3 &&& (65535 : Int64)).toInt32).toUInt32.toUInt16.toUInt32.toInt32), iv (((((q3.toUInt64 >>> ((16 : Int32) &&& 0x3f).toInt64.toUInt64).toInt64) &&& (65535 : Int64)).toInt32).toUInt32.toUInt16.toUInt32.toInt32), iv (((((q3.toUInt64 >>> ((32 : Int32) &&& 0x3f).toInt64.toUInt64).toInt64) &&& (65535 : Int64)).toInt32).toUInt32.toUInt16.toUInt32.toInt32), iv (((((q3.toUInt64 >>> ((48 : Int32) &&& 0x3f).toInt64.toUInt64).toInt64) &&& (65535 : Int64)).toInt32).toUInt32.toUInt16.toUInt32.toInt32), rv sg_3, rv (own_pk ((p0 &&& (2147483647 : Int32)) % (7 : Int32)) w0 w1 w2 w3 w4 w5 w6), rv b19] [(.int (1 : Int32))])) _
      exact retN X41 hx (t := .boolean) Bd.returns (by simp) (hb hby at_111) hr
    · show own_Q0 n0 _ T41.heap _
      rw [e41]
      exact ⟨rfl, N41⟩
  · rw [hi] at pre1
    have pre44 : ∀ t, Steps p.tables e below (s₁.setTop (mkF m 63 #[iv p0, iv p1, iv p2, .val (.long q3), .second, iv (1 : Int32), iv (((q3 &&& (65535 : Int64)).toInt32).toUInt32.toUInt16.toUInt32.toInt32), iv (((((q3.toUInt64 >>> ((16 : Int32) &&& 0x3f).toInt64.toUInt64).toInt64) &&& (65535 : Int64)).toInt32).toUInt32.toUInt16.toUInt32.toInt32), iv (((((q3.toUInt64 >>> ((32 : Int32) &&& 0x3f).toInt64.toUInt64).toInt64) &&& (65535 : Int64)).toInt32).toUInt32.toUInt16.toUInt32.toInt32), iv (((((q3.toUInt64 >>> ((48 : Int32) &&& 0x3f).toInt64.toUInt64).toInt64) &&& (65535 : Int64)).toInt32).toUInt32.toUInt16.toUInt32.toInt32), .unset, .unset, .unset] [(.int (((((q3.toUInt64 >>> ((48 : Int32) &&& 0x3f).toInt64.toUInt64).toInt64) &&& (65535 : Int64)).toInt32).toUInt32.toUInt16.toUInt32.toInt32)), (.int (((((q3.toUInt64 >>> ((32 : Int32) &&& 0x3f).toInt64.toUInt64).toInt64) &&& (65535 : Int64)).toInt32).toUInt32.toUInt16.toUInt32.toInt32)), (.int (((((q3.toUInt64 >>> ((16 : Int32) &&& 0x3f).toInt64.toUInt64).toInt64) &&& (65535 : Int64)).toInt32).toUInt32.toUInt16.toUInt32.toInt32)), (.int (((q3 &&& (65535 : Int64)).toInt32).toUInt32.toUInt16.toUInt32.toInt32)), (.int (1 : Int32))])) t → Steps p.tables e below (s₁.setTop (entryFrame m #[(.int p0), (.int p1), (.int p2), (.long q3)] maxLocals)) t := fun t kt => pre1 t (by
     refine XS.lloadN X0.here hx rfl (hb hby at_8) rfl ?_
     refine X0.ldc2Long hx hown (mvT hZ (own_g hw 1 rfl)) (g := (mkF m 9 #[iv p0, iv p1, iv p2, .val (.long q3), .second, iv (1 : Int32), .unset, .unset, .unset, .unset, .unset, .unset, .unset] [(.long q3)])) rfl (hb hby at_9) _ ?_
     refine XS.land X0.here hx rfl (hb hby at_12) rfl ?_
     refine XS.l2i X0.here hx rfl (hb hby at_13) rfl ?_
     refine XS.i2c X0.here hx rfl (hb hby at_14) rfl ?_
     refine XS.istore X0.here hx rfl (hb hby at_15) rfl (l' := #[iv p0, iv p1, iv p2, .val (.long q3), .second, iv (1 : Int32), iv (((q3 &&& (65535 : Int64)).toInt32).toUInt32.toUInt16.toUInt32.toInt32), .unset, .unset, .unset, .unset, .unset, .unset]) rfl ?_
     refine XS.lloadN X0.here hx rfl (hb hby at_17) rfl ?_
     refine XS.bipush X0.here hx rfl (hb hby at_18) ?_
     refine XS.lushr X0.here hx rfl (hb hby at_20) rfl ?_
     refine X0.ldc2Long hx hown (mvT hZ (own_g hw 1 rfl)) (g := (mkF m 21 #[iv p0, iv p1, iv p2, .val (.long q3), .second, iv (1 : Int32), iv (((q3 &&& (65535 : Int64)).toInt32).toUInt32.toUInt16.toUInt32.toInt32), .unset, .unset, .unset, .unset, .unset, .unset] [(.long ((q3.toUInt64 >>> ((16 : Int32) &&& 0x3f).toInt64.toUInt64).toInt64))])) rfl (hb hby at_21) _ ?_
     show Steps _ _ _ (s₁.setTop (mkF m 24 #[iv p0, iv p1, iv p2, .val (.long q3), .second, iv (1 : Int32), iv (((q3 &&& (65535 : Int64)).toInt32).toUInt32.toUInt16.toUInt32.toInt32), .unset, .unset, .unset, .unset, .unset, .unset] [(.long (65535 : Int64)), (.long ((q3.toUInt64 >>> ((16 : Int32) &&& 0x3f).toInt64.toUInt64).toInt64))])) _
     refine XS.land X0.here hx rfl (hb hby at_24) rfl ?_
     refine XS.l2i X0.here hx rfl (hb hby at_25) rfl ?_
     refine XS.i2c X0.here hx rfl (hb hby at_26) rfl ?_
     refine XS.istore X0.here hx rfl (hb hby at_27) rfl (l' := #[iv p0, iv p1, iv p2, .val (.long q3), .second, iv (1 : Int32), iv (((q3 &&& (65535 : Int64)).toInt32).toUInt32.toUInt16.toUInt32.toInt32), iv (((((q3.toUInt64 >>> ((16 : Int32) &&& 0x3f).toInt64.toUInt64).toInt64) &&& (65535 : Int64)).toInt32).toUInt32.toUInt16.toUInt32.toInt32), .unset, .unset, .unset, .unset, .unset]) rfl ?_
     refine XS.lloadN X0.here hx rfl (hb hby at_29) rfl ?_
     refine XS.bipush X0.here hx rfl (hb hby at_30) ?_
     refine XS.lushr X0.here hx rfl (hb hby at_32) rfl ?_
     refine X0.ldc2Long hx hown (mvT hZ (own_g hw 1 rfl)) (g := (mkF m 33 #[iv p0, iv p1, iv p2, .val (.long q3), .second, iv (1 : Int32), iv (((q3 &&& (65535 : Int64)).toInt32).toUInt32.toUInt16.toUInt32.toInt32), iv (((((q3.toUInt64 >>> ((16 : Int32) &&& 0x3f).toInt64.toUInt64).toInt64) &&& (65535 : Int64)).toInt32).toUInt32.toUInt16.toUInt32.toInt32), .unset, .unset, .unset, .unset, .unset] [(.long ((q3.toUInt64 >>> ((32 : Int32) &&& 0x3f).toInt64.toUInt64).toInt64))])) rfl (hb hby at_33) _ ?_
     refine XS.land X0.here hx rfl (hb hby at_36) rfl ?_
     refine XS.l2i X0.here hx rfl (hb hby at_37) rfl ?_
     refine XS.i2c X0.here hx rfl (hb hby at_38) rfl ?_
     refine XS.istore X0.here hx rfl (hb hby at_39) rfl (l' := #[iv p0, iv p1, iv p2, .val (.long q3), .second, iv (1 : Int32), iv (((q3 &&& (65535 : Int64)).toInt32).toUInt32.toUInt16.toUInt32.toInt32), iv (((((q3.toUInt64 >>> ((16 : Int32) &&& 0x3f).toInt64.toUInt64).toInt64) &&& (65535 : Int64)).toInt32).toUInt32.toUInt16.toUInt32.toInt32), iv (((((q3.toUInt64 >>> ((32 : Int32) &&& 0x3f).toInt64.toUInt64).toInt64) &&& (65535 : Int64)).toInt32).toUInt32.toUInt16.toUInt32.toInt32), .unset, .unset, .unset, .unset]) rfl ?_
     refine XS.lloadN X0.here hx rfl (hb hby at_41) rfl ?_
     refine XS.bipush X0.here hx rfl (hb hby at_42) ?_
     refine XS.lushr X0.here hx rfl (hb hby at_44) rfl ?_
     refine X0.ldc2Long hx hown (mvT hZ (own_g hw 1 rfl)) (g := (mkF m 45 #[iv p0, iv p1, iv p2, .val (.long q3), .second, iv (1 : Int32), iv (((q3 &&& (65535 : Int64)).toInt32).toUInt32.toUInt16.toUInt32.toInt32), iv (((((q3.toUInt64 >>> ((16 : Int32) &&& 0x3f).toInt64.toUInt64).toInt64) &&& (65535 : Int64)).toInt32).toUInt32.toUInt16.toUInt32.toInt32), iv (((((q3.toUInt64 >>> ((32 : Int32) &&& 0x3f).toInt64.toUInt64).toInt64) &&& (65535 : Int64)).toInt32).toUInt32.toUInt16.toUInt32.toInt32), .unset, .unset, .unset, .unset] [(.long ((q3.toUInt64 >>> ((48 : Int32) &&& 0x3f).toInt64.toUInt64).toInt64))])) rfl (hb hby at_45) _ ?_
     refine XS.land X0.here hx rfl (hb hby at_48) rfl ?_
     refine XS.l2i X0.here hx rfl (hb hby at_49) rfl ?_
     refine XS.i2c X0.here hx rfl (hb hby at_50) rfl ?_
     refine XS.istore X0.here hx rfl (hb hby at_51) rfl (l' := #[iv p0, iv p1, iv p2, .val (.long q3), .second, iv (1 : Int32), iv (((q3 &&& (65535 : Int64)).toInt32).toUInt32.toUInt16.toUInt32.toInt32), iv (((((q3.toUInt64 >>> ((16 : Int32) &&& 0x3f).toInt64.toUInt64).toInt64) &&& (65535 : Int64)).toInt32).toUInt32.toUInt16.toUInt32.toInt32), iv (((((q3.toUInt64 >>> ((32 : Int32) &&& 0x3f).toInt64.toUInt64).toInt64) &&& (65535 : Int64)).toInt32).toUInt32.toUInt16.toUInt32.toInt32), iv (((((q3.toUInt64 >>> ((48 : Int32) &&& 0x3f).toInt64.toUInt64).toInt64) &&& (65535 : Int64)).toInt32).toUInt32.toUInt16.toUInt32.toInt32), .unset, .unset, .unset]) rfl ?_
     refine XS.iload X0.here hx rfl (hb hby at_53) rfl ?_
     refine XS.iload X0.here hx rfl (hb hby at_55) rfl ?_
     refine XS.iload X0.here hx rfl (hb hby at_57) rfl ?_
     refine XS.iload X0.here hx rfl (hb hby at_59) rfl ?_
     show Steps _ _ _ (s₁.setTop (mkF m 61 #[iv p0, iv p1, iv p2, .val (.long q3), .second, iv (1 : Int32), iv (((q3 &&& (65535 : Int64)).toInt32).toUInt32.toUInt16.toUInt32.toInt32), iv (((((q3.toUInt64 >>> ((16 : Int32) &&& 0x3f).toInt64.toUInt64).toInt64) &&& (65535 : Int64)).toInt32).toUInt32.toUInt16.toUInt32.toInt32), iv (((((q3.toUInt64 >>> ((32 : Int32) &&& 0x3f).toInt64.toUInt64).toInt64) &&& (65535 : Int64)).toInt32).toUInt32.toUInt16.toUInt32.toInt32), iv (((((q3.toUInt64 >>> ((48 : Int32) &&& 0x3f).toInt64.toUInt64).toInt64) &&& (65535 : Int64)).toInt32).toUInt32.toUInt16.toUInt32.toInt32), .unset, .unset, .unset] [(.int (((((q3.toUInt64 >>> ((32 : Int32) &&& 0x3f).toInt64.toUInt64).toInt64) &&& (65535 : Int64)).toInt32).toUInt32.toUInt16.toUInt32.toInt32)), (.int (((((q3.toUInt64 >>> ((16 : Int32) &&& 0x3f).toInt64.toUInt64).toInt64) &&& (65535 : Int64)).toInt32).toUInt32.toUInt16.toUInt32.toInt32)), (.int (((q3 &&& (65535 : Int64)).toInt32).toUInt32.toUInt16.toUInt32.toInt32)), (.int (1 : Int32))])) _
     refine XS.iload X0.here hx rfl (hb hby at_61) rfl ?_
     exact kt)
    obtain ⟨_, _, ⟨T45, L45, k45, n45⟩, -, X45, ⟨Lc45, hQ45, l45, y45, z45⟩, st45⟩ := Jvm.LawKit.callS X0 hx (y := own_y10) hown (mvT hZ (own_g hw 2 rfl)) (mvT hZ (own_g hw 3 rfl)) (mvT hZ (own_g hw 4 rfl)) (mvT hZ (own_g hw 5 rfl)) (by decide) (backOf (W := 0) (rmMk_1 l Z a0 hw [] (((q3 &&& (65535 : Int64)).toInt32).toUInt32.toUInt16.toUInt32.toInt32) (((((q3.toUInt64 >>> ((16 : Int32) &&& 0x3f).toInt64.toUInt64).toInt64) &&& (65535 : Int64)).toInt32).toUInt32.toUInt16.toUInt32.toInt32) (((((q3.toUInt64 >>> ((32 : Int32) &&& 0x3f).toInt64.toUInt64).toInt64) &&& (65535 : Int64)).toInt32).toUInt32.toUInt16.toUInt32.toInt32) (((((q3.toUInt64 >>> ((48 : Int32) &&& 0x3f).toInt64.toUInt64).toInt64) &&& (65535 : Int64)).toInt32).toUInt32.toUInt16.toUInt32.toInt32) zC h0 n0 Z0 P_S_StringUTF16__assertionsDisabled P_S_StringUTF16_HI_BYTE_SHIFT P_S_StringUTF16_LO_BYTE_SHIFT P_S_String_COMPACT_STRINGS hz) hZ (own_g hw 5 rfl) (own_g hw 4 rfl) (by decide) (by decide)) (g := (mkF m 63 #[iv p0, iv p1, iv p2, .val (.long q3), .second, iv (1 : Int32), iv (((q3 &&& (65535 : Int64)).toInt32).toUInt32.toUInt16.toUInt32.toInt32), iv (((((q3.toUInt64 >>> ((16 : Int32) &&& 0x3f).toInt64.toUInt64).toInt64) &&& (65535 : Int64)).toInt32).toUInt32.toUInt16.toUInt32.toInt32), iv (((((q3.toUInt64 >>> ((32 : Int32) &&& 0x3f).toInt64.toUInt64).toInt64) &&& (65535 : Int64)).toInt32).toUInt32.toUInt16.toUInt32.toInt32), iv (((((q3.toUInt64 >>> ((48 : Int32) &&& 0x3f).toInt64.toUInt64).toInt64) &&& (65535 : Int64)).toInt32).toUInt32.toUInt16.toUInt32.toInt32), .unset, .unset, .unset] [(.int (((((q3.toUInt64 >>> ((48 : Int32) &&& 0x3f).toInt64.toUInt64).toInt64) &&& (65535 : Int64)).toInt32).toUInt32.toUInt16.toUInt32.toInt32)), (.int (((((q3.toUInt64 >>> ((32 : Int32) &&& 0x3f).toInt64.toUInt64).toInt64) &&& (65535 : Int64)).toInt32).toUInt32.toUInt16.toUInt32.toInt32)), (.int (((((q3.toUInt64 >>> ((16 : Int32) &&& 0x3f).toInt64.toUInt64).toInt64) &&& (65535 : Int64)).toInt32).toUInt32.toUInt16.toUInt32.toInt32)), (.int (((q3 &&& (65535 : Int64)).toInt32).toUInt32.toUInt16.toUInt32.toInt32)), (.int (1 : Int32))])) rfl (by rw [hml]; rfl) (argsL := [(.int (1 : Int32)), (.int (((q3 &&& (65535 : Int64)).toInt32).toUInt32.toUInt16.toUInt32.toInt32)), (.int (((((q3.toUInt64 >>> ((16 : Int32) &&& 0x3f).toInt64.toUInt64).toInt64) &&& (65535 : Int64)).toInt32).toUInt32.toUInt16.toUInt32.toInt32)), (.int (((((q3.toUInt64 >>> ((32 : Int32) &&& 0x3f).toInt64.toUInt64).toInt64) &&& (65535 : Int64)).toInt32).toUInt32.toUInt16.toUInt32.toInt32)), (.int (((((q3.toUInt64 >>> ((48 : Int32) &&& 0x3f).toInt64.toUInt64).toInt64) &&& (65535 : Int64)).toInt32).toUInt32.toUInt16.toUInt32.toInt32))]) (rest := []) (lenOf pd__ICCCC_Ljava_lang_String_ rfl) rfl (by show 2 * 0 + _ ≤ _; exact Nat.le_of_eq rfl) (hb hby at_63) (fun _ _ => ⟨rfl, e0, (by decide : 0 + 4 ≤ _), (by decide : 0 + 8 ≤ _)⟩)
    dsimp only [Pt.U, Pt.locs, Pt.cells, Pt.slots] at X45 l45 y45 z45 st45 hQ45
    subst l45 y45 z45
    obtain ⟨sg_45, t_45, kt_45, z_45, vs_45, cd_45, rfl, N45q, K45, sx45_0, sx45_1, px45_0, f46, f47, f48, f49, f50, f51⟩ := hQ45
    have osg_45 : n0 ≤ sg_45 := Nat.le_trans Z0 sx45_0
    have zsg_45 : h0.size ≤ sg_45 := Nat.le_trans (Keep.refl h0 []).1 sx45_0
    have ot_45 : n0 ≤ t_45 := Nat.le_trans Z0 sx45_1
    have zt_45 : h0.size ≤ t_45 := Nat.le_trans (Keep.refl h0 []).1 sx45_1
    have KK45 : Keep h0 T45.heap [] := Keep.trans (Keep.refl h0 []) K45 all0
    have CH52 : CHr Z own_EL s.vm h0 s.vm T45.heap := CH0.trans (CHr.keep K45 sf0 CH0.1)
    have N45 := Fr.app N0 N45q
    have pre53 : ∀ t, Steps p.tables e below (T45.setTop (mkF m 75 #[iv p0, iv p1, iv p2, .val (.long q3), .second, iv (1 : Int32), iv (((q3 &&& (65535 : Int64)).toInt32).toUInt32.toUInt16.toUInt32.toInt32), iv (((((q3.toUInt64 >>> ((16 : Int32) &&& 0x3f).toInt64.toUInt64).toInt64) &&& (65535 : Int64)).toInt32).toUInt32.toUInt16.toUInt32.toInt32), iv (((((q3.toUInt64 >>> ((32 : Int32) &&& 0x3f).toInt64.toUInt64).toInt64) &&& (65535 : Int64)).toInt32).toUInt32.toUInt16.toUInt32.toInt32), iv (((((q3.toUInt64 >>> ((48 : Int32) &&& 0x3f).toInt64.toUInt64).toInt64) &&& (65535 : Int64)).toInt32).toUInt32.toUInt16.toUInt32.toInt32), rv sg_45, .unset, .unset] [(.int ((p0 &&& (2147483647 : Int32)) % (7 : Int32)))])) t → Steps p.tables e below (s₁.setTop (entryFrame m #[(.int p0), (.int p1), (.int p2), (.long q3)] maxLocals)) t := fun t kt => pre44 t (by
     show Steps _ _ _ (s₁.setTop (mkF m 63 #[iv p0, iv p1, iv p2, .val (.long q3), .second, iv (1 : Int32), iv (((q3 &&& (65535 : Int64)).toInt32).toUInt32.toUInt16.toUInt32.toInt32), iv (((((q3.toUInt64 >>> ((16 : Int32) &&& 0x3f).toInt64.toUInt64).toInt64) &&& (65535 : Int64)).toInt32).toUInt32.toUInt16.toUInt32.toInt32), iv (((((q3.toUInt64 >>> ((32 : Int32) &&& 0x3f).toInt64.toUInt64).toInt64) &&& (65535 : Int64)).toInt32).toUInt32.toUInt16.toUInt32.toInt32), iv (((((q3.toUInt64 >>> ((48 : Int32) &&& 0x3f).toInt64.toUInt64).toInt64) &&& (65535 : Int64)).toInt32).toUInt32.toUInt16.toUInt32.toInt32), .unset, .unset, .unset] [(.int (((((q3.toUInt64 >>> ((48 : Int32) &&& 0x3f).toInt64.toUInt64).toInt64) &&& (65535 : Int64)).toInt32).toUInt32.toUInt16.toUInt32.toInt32)), (.int (((((q3.toUInt64 >>> ((32 : Int32) &&& 0x3f).toInt64.toUInt64).toInt64) &&& (65535 : Int64)).toInt32).toUInt32.toUInt16.toUInt32.toInt32)), (.int (((((q3.toUInt64 >>> ((16 : Int32) &&& 0x3f).toInt64.toUInt64).toInt64) &&& (65535 : Int64)).toInt32).toUInt32.toUInt16.toUInt32.toInt32)), (.int (((q3 &&& (65535 : Int64)).toInt32).toUInt32.toUInt16.toUInt32.toInt32)), (.int (1 : Int32))])) _
     refine st45 _ ?_
     refine XS.astore X45.here hx rfl (hb hby at_66) rfl rfl (l' := #[iv p0, iv p1, iv p2, .val (.long q3), .second, iv (1 : Int32), iv (((q3 &&& (65535 : Int64)).toInt32).toUInt32.toUInt16.toUInt32.toInt32), iv (((((q3.toUInt64 >>> ((16 : Int32) &&& 0x3f).toInt64.toUInt64).toInt64) &&& (65535 : Int64)).toInt32).toUInt32.toUInt16.toUInt32.toInt32), iv (((((q3.toUInt64 >>> ((32 : Int32) &&& 0x3f).toInt64.toUInt64).toInt64) &&& (65535 : Int64)).toInt32).toUInt32.toUInt16.toUInt32.toInt32), iv (((((q3.toUInt64 >>> ((48 : Int32) &&& 0x3f).toInt64.toUInt64).toInt64) &&& (65535 : Int64)).toInt32).toUInt32.toUInt16.toUInt32.toInt32), rv sg_45, .unset, .unset]) rfl ?_
     refine XS.iloadN X45.here hx rfl (hb hby at_68) rfl ?_
     refine X45.ldcInt hx hown (mvT hZ (own_g hw 0 rfl)) (g := (mkF m 69 #[iv p0, iv p1, iv p2, .val (.long q3), .second, iv (1 : Int32), iv (((q3 &&& (65535 : Int64)).toInt32).toUInt32.toUInt16.toUInt32.toInt32), iv (((((q3.toUInt64 >>> ((16 : Int32) &&& 0x3f).toInt64.toUInt64).toInt64) &&& (65535 : Int64)).toInt32).toUInt32.toUInt16.toUInt32.toInt32), iv (((((q3.toUInt64 >>> ((32 : Int32) &&& 0x3f).toInt64.toUInt64).toInt64) &&& (65535 : Int64)).toInt32).toUInt32.toUInt16.toUInt32.toInt32), iv (((((q3.toUInt64 >>> ((48 : Int32) &&& 0x3f).toInt64.toUInt64).toInt64) &&& (65535 : Int64)).toInt32).toUInt32.toUInt16.toUInt32.toInt32), rv sg_45, .unset, .unset] [(.int p0)])) rfl (hb hby at_69) _ ?_
     refine XS.iand X45.here hx rfl (hb hby at_71) rfl ?_
     refine XS.bipush X45.here hx rfl (hb hby at_72) ?_
     refine iremM X45 hx rfl (hb hby at_74) rfl (by decide : ¬ ((7 : Int32) = (0 : Int32))) ?_
     exact kt)
    have f54 : Sta Z T45.heap "com/example/apq/apq/jpql/Token$Kind" "WORD" "Lcom/example/apq/apq/jpql/Token$Kind;" (.ref w0) := (own_staKeep P_S_Token_Kind_WORD K45 ns0)
    have f55 : Sta Z T45.heap "com/example/apq/apq/jpql/Token$Kind" "STRING" "Lcom/example/apq/apq/jpql/Token$Kind;" (.ref w1) := (own_staKeep P_S_Token_Kind_STRING K45 ns0)
    have f56 : Sta Z T45.heap "com/example/apq/apq/jpql/Token$Kind" "NUMBER" "Lcom/example/apq/apq/jpql/Token$Kind;" (.ref w2) := (own_staKeep P_S_Token_Kind_NUMBER K45 ns0)
    have f57 : Sta Z T45.heap "com/example/apq/apq/jpql/Token$Kind" "DATETIME" "Lcom/example/apq/apq/jpql/Token$Kind;" (.ref w3) := (own_staKeep P_S_Token_Kind_DATETIME K45 ns0)
    have f58 : Sta Z T45.heap "com/example/apq/apq/jpql/Token$Kind" "PARAMETER" "Lcom/example/apq/apq/jpql/Token$Kind;" (.ref w4) := (own_staKeep P_S_Token_Kind_PARAMETER K45 ns0)
    have f59 : Sta Z T45.heap "com/example/apq/apq/jpql/Token$Kind" "SYMBOL" "Lcom/example/apq/apq/jpql/Token$Kind;" (.ref w5) := (own_staKeep P_S_Token_Kind_SYMBOL K45 ns0)
    have f60 : Sta Z T45.heap "com/example/apq/apq/jpql/Token$Kind" "END" "Lcom/example/apq/apq/jpql/Token$Kind;" (.ref w6) := (own_staKeep P_S_Token_Kind_END K45 ns0)
    have f61 : n0 ≤ T45.heap.size := (Nat.le_trans Z0 K45.1)
    obtain ⟨_, _, ⟨T62, L62, k62, n62⟩, -, X62, ⟨Lc62, hQ62, l62, y62, z62⟩, st62⟩ := Jvm.LawKit.callS X45 hx (y := own_y11) hown (mvT hZ (own_g hw 55 rfl)) (mvT hZ (own_g hw 56 rfl)) (mvT hZ (own_g hw 4 rfl)) (mvT hZ (own_g hw 57 rfl)) (by decide) (backOf (W := 0) (rmPK l Z a0 hw [] ((p0 &&& (2147483647 : Int32)) % (7 : Int32)) w0 w1 w2 w3 w4 w5 w6 T45.heap n0 f61 f54 f55 f56 f57 f58 f59 f60) hZ (own_g hw 57 rfl) (own_g hw 4 rfl) (by decide) (by decide)) (g := (mkF m 75 #[iv p0, iv p1, iv p2, .val (.long q3), .second, iv (1 : Int32), iv (((q3 &&& (65535 : Int64)).toInt32).toUInt32.toUInt16.toUInt32.toInt32), iv (((((q3.toUInt64 >>> ((16 : Int32) &&& 0x3f).toInt64.toUInt64).toInt64) &&& (65535 : Int64)).toInt32).toUInt32.toUInt16.toUInt32.toInt32), iv (((((q3.toUInt64 >>> ((32 : Int32) &&& 0x3f).toInt64.toUInt64).toInt64) &&& (65535 : Int64)).toInt32).toUInt32.toUInt16.toUInt32.toInt32), iv (((((q3.toUInt64 >>> ((48 : Int32) &&& 0x3f).toInt64.toUInt64).toInt64) &&& (65535 : Int64)).toInt32).toUInt32.toUInt16.toUInt32.toInt32), rv sg_45, .unset, .unset] [(.int ((p0 &&& (2147483647 : Int32)) % (7 : Int32)))])) rfl (by rw [hml]; rfl) (argsL := [(.int ((p0 &&& (2147483647 : Int32)) % (7 : Int32)))]) (rest := []) (lenOf pd__I_Lcom_example_apq_apq_jpql_Token_Kind_ rfl) rfl (by show 2 * 0 + _ ≤ _; exact Nat.le_of_eq rfl) (hb hby at_75) (fun _ _ => ⟨rfl, rfl, (by decide : 4 + 0 ≤ _), (by decide : 8 + 0 ≤ _)⟩)
    dsimp only [Pt.U, Pt.locs, Pt.cells, Pt.slots] at X62 l62 y62 z62 st62 hQ62
    subst l62 y62 z62
    obtain ⟨rfl, N62q, e62⟩ := hQ62
    have N62 := Fr.app N45 N62q
    obtain ⟨T63, h63, X63, e63, E63, A63, D63, U63, st63⟩ := newO X62 hx hZ hown (own_g hw 61 rfl) (own_g hw 62 rfl) (own_g hw 63 rfl) e62 (g := (mkF m 80 #[iv p0, iv p1, iv p2, .val (.long q3), .second, iv (1 : Int32), iv (((q3 &&& (65535 : Int64)).toInt32).toUInt32.toUInt16.toUInt32.toInt32), iv (((((q3.toUInt64 >>> ((16 : Int32) &&& 0x3f).toInt64.toUInt64).toInt64) &&& (65535 : Int64)).toInt32).toUInt32.toUInt16.toUInt32.toInt32), iv (((((q3.toUInt64 >>> ((32 : Int32) &&& 0x3f).toInt64.toUInt64).toInt64) &&& (65535 : Int64)).toInt32).toUInt32.toUInt16.toUInt32.toInt32), iv (((((q3.toUInt64 >>> ((48 : Int32) &&& 0x3f).toInt64.toUInt64).toInt64) &&& (65535 : Int64)).toInt32).toUInt32.toUInt16.toUInt32.toInt32), rv sg_45, rv (own_pk ((p0 &&& (2147483647 : Int32)) % (7 : Int32)) w0 w1 w2 w3 w4 w5 w6), .unset] [])) rfl (hb hby at_80) (by decide) (by decide)
    obtain ⟨b63, g63⟩ : ∃ z, z = T45.heap.size := ⟨_, rfl⟩
    rw [← g63] at A63 D63 U63 st63
    have ne64 : sg_45 ≠ b63 := Nat.ne_of_lt (Nat.lt_of_lt_of_le f46.lt (Nat.le_of_eq g63.symm))
    have ne65 : t_45 ≠ b63 := Nat.ne_of_lt (Nat.lt_of_lt_of_le f49.lt (Nat.le_of_eq g63.symm))
    have o63 : n0 ≤ b63 := Nat.le_trans f61 (Nat.le_of_eq g63.symm)
    have z63 : h0.size ≤ b63 := Nat.le_trans KK45.1 (Nat.le_of_eq g63.symm)
    have CH66 : CHr Z own_EL s.vm h0 s.vm h63 := CH52.trans (CHr.ext E63 CH52.1)
    have Yb67 : Safe Z own_EL s.vm h63 b63 := Safe.ext E63 CH52.1 (Safe.new (Nat.le_of_eq g63.symm))
    have K63 : Keep h0 h63 [] := KK45.ext E63
    have f68 : Fld Z h63 b63 "com/example/apq/apq/jpql/Token" "kind" "Lcom/example/apq/apq/jpql/Token$Kind;" .null := D63 (Or.inr (own_g hw 74 rfl)) (ty := (.object "com/example/apq/apq/jpql/Token$Kind")) (by decide)
    have f69 : Fld Z h63 b63 "com/example/apq/apq/jpql/Token" "text" "Ljava/lang/String;" .null := D63 (Or.inr (own_g hw 76 rfl)) (ty := (.object "java/lang/String")) (by decide)
    have f70 : Fld Z h63 b63 "com/example/apq/apq/jpql/Token" "offset" "I" (.int (0 : Int32)) := D63 (Or.inr (own_g hw 78 rfl)) (ty := .int) (by decide)
    have pre71 : ∀ t, Steps p.tables e below (T63.setTop (mkF m 89 #[iv p0, iv p1, iv p2, .val (.long q3), .second, iv (1 : Int32), iv (((q3 &&& (65535 : Int64)).toInt32).toUInt32.toUInt16.toUInt32.toInt32), iv (((((q3.toUInt64 >>> ((16 : Int32) &&& 0x3f).toInt64.toUInt64).toInt64) &&& (65535 : Int64)).toInt32).toUInt32.toUInt16.toUInt32.toInt32), iv (((((q3.toUInt64 >>> ((32 : Int32) &&& 0x3f).toInt64.toUInt64).toInt64) &&& (65535 : Int64)).toInt32).toUInt32.toUInt16.toUInt32.toInt32), iv (((((q3.toUInt64 >>> ((48 : Int32) &&& 0x3f).toInt64.toUInt64).toInt64) &&& (65535 : Int64)).toInt32).toUInt32.toUInt16.toUInt32.toInt32), rv sg_45, rv (own_pk ((p0 &&& (2147483647 : Int32)) % (7 : Int32)) w0 w1 w2 w3 w4 w5 w6), .unset] [(.int p1), (.ref sg_45), (.ref (own_pk ((p0 &&& (2147483647 : Int32)) % (7 : Int32)) w0 w1 w2 w3 w4 w5 w6)), (.ref b63), (.ref b63)])) t → Steps p.tables e below (s₁.setTop (entryFrame m #[(.int p0), (.int p1), (.int p2), (.long q3)] maxLocals)) t := fun t kt => pre53 t (by
     show Steps _ _ _ (T45.setTop (mkF m 75 #[iv p0, iv p1, iv p2, .val (.long q3), .second, iv (1 : Int32), iv (((q3 &&& (65535 : Int64)).toInt32).toUInt32.toUInt16.toUInt32.toInt32), iv (((((q3.toUInt64 >>> ((16 : Int32) &&& 0x3f).toInt64.toUInt64).toInt64) &&& (65535 : Int64)).toInt32).toUInt32.toUInt16.toUInt32.toInt32), iv (((((q3.toUInt64 >>> ((32 : Int32) &&& 0x3f).toInt64.toUInt64).toInt64) &&& (65535 : Int64)).toInt32).toUInt32.toUInt16.toUInt32.toInt32), iv (((((q3.toUInt64 >>> ((48 : Int32) &&& 0x3f).toInt64.toUInt64).toInt64) &&& (65535 : Int64)).toInt32).toUInt32.toUInt16.toUInt32.toInt32), rv sg_45, .unset, .unset] [(.int ((p0 &&& (2147483647 : Int32)) % (7 : Int32)))])) _
     refine st62 _ ?_
     refine XS.astore X62.here hx rfl (hb hby at_78) rfl rfl (l' := #[iv p0, iv p1, iv p2, .val (.long q3), .second, iv (1 : Int32), iv (((q3 &&& (65535 : Int64)).toInt32).toUInt32.toUInt16.toUInt32.toInt32), iv (((((q3.toUInt64 >>> ((16 : Int32) &&& 0x3f).toInt64.toUInt64).toInt64) &&& (65535 : Int64)).toInt32).toUInt32.toUInt16.toUInt32.toInt32), iv (((((q3.toUInt64 >>> ((32 : Int32) &&& 0x3f).toInt64.toUInt64).toInt64) &&& (65535 : Int64)).toInt32).toUInt32.toUInt16.toUInt32.toInt32), iv (((((q3.toUInt64 >>> ((48 : Int32) &&& 0x3f).toInt64.toUInt64).toInt64) &&& (65535 : Int64)).toInt32).toUInt32.toUInt16.toUInt32.toInt32), rv sg_45, rv (own_pk ((p0 &&& (2147483647 : Int32)) % (7 : Int32)) w0 w1 w2 w3 w4 w5 w6), .unset]) rfl ?_
     refine st63 _ ?_
     refine XS.dup X63.here hx rfl (hb hby at_83) rfl rfl ?_
     refine XS.aload X63.here hx rfl (hb hby at_84) rfl rfl ?_
     refine XS.aload X63.here hx rfl (hb hby at_86) rfl rfl ?_
     refine XS.iloadN X63.here hx rfl (hb hby at_88) rfl ?_
     exact kt)
    have f72 : n0 ≤ h63.size := (Nat.le_trans f61 E63.1)
    obtain ⟨_, _, ⟨T73, L73, k73, n73⟩, -, X73, ⟨Lc73, hQ73, l73, y73, z73⟩, st73⟩ := X63.specialBack hx (y := own_y13) rfl hown (mvT hZ (own_g hw 64 rfl)) (mvT hZ (own_g hw 65 rfl)) (mvT hZ (own_g hw 66 rfl)) (by decide) (backOf (W := 1) (rmTI l Z a0 hw [] b63 (own_pk ((p0 &&& (2147483647 : Int32)) % (7 : Int32)) w0 w1 w2 w3 w4 w5 w6) sg_45 p1 h63 n0 f72 A63 f68 f69 f70 o63) hZ (own_g hw 66 rfl) (own_g hw 63 rfl) (by decide) (by decide)) (g := (mkF m 89 #[iv p0, iv p1, iv p2, .val (.long q3), .second, iv (1 : Int32), iv (((q3 &&& (65535 : Int64)).toInt32).toUInt32.toUInt16.toUInt32.toInt32), iv (((((q3.toUInt64 >>> ((16 : Int32) &&& 0x3f).toInt64.toUInt64).toInt64) &&& (65535 : Int64)).toInt32).toUInt32.toUInt16.toUInt32.toInt32), iv (((((q3.toUInt64 >>> ((32 : Int32) &&& 0x3f).toInt64.toUInt64).toInt64) &&& (65535 : Int64)).toInt32).toUInt32.toUInt16.toUInt32.toInt32), iv (((((q3.toUInt64 >>> ((48 : Int32) &&& 0x3f).toInt64.toUInt64).toInt64) &&& (65535 : Int64)).toInt32).toUInt32.toUInt16.toUInt32.toInt32), rv sg_45, rv (own_pk ((p0 &&& (2147483647 : Int32)) % (7 : Int32)) w0 w1 w2 w3 w4 w5 w6), .unset] [(.int p1), (.ref sg_45), (.ref (own_pk ((p0 &&& (2147483647 : Int32)) % (7 : Int32)) w0 w1 w2 w3 w4 w5 w6)), (.ref b63), (.ref b63)])) rfl (by rw [hml]; rfl) (Steps.refl _) (a := b63) (argsL := [(.ref (own_pk ((p0 &&& (2147483647 : Int32)) % (7 : Int32)) w0 w1 w2 w3 w4 w5 w6)), (.ref sg_45), (.int p1)]) (rest := [(.ref b63)]) (lenOf pd__Lcom_example_apq_apq_jpql_Token_Kind_Ljava_lang_String_I_V rfl) rfl (by show 2 * 0 + _ ≤ _; exact Nat.le_of_eq rfl) (hb hby at_89) (fun _ _ => ⟨rfl, e63, (by decide : 5 + 0 ≤ _), (by decide : 11 + 0 ≤ _)⟩)
    dsimp only [Pt.U, Pt.locs, Pt.cells, Pt.slots] at X73 l73 y73 z73 st73 hQ73
    subst l73 y73 z73
    obtain ⟨rfl, N73q, K73, f74, f75, f76⟩ := hQ73
    have KK73 : Keep h0 T73.heap [] := Keep.trans K63 K73 (allS (Or.inr z63) all0)
    have CH77 : CHr Z own_EL s.vm h0 s.vm T73.heap := CH66.trans (CHr.keep K73 (sfS Yb67 sf0) CH66.1)
    have N73 := Fr.app N62 N73q
    have pre78 : ∀ t, Steps p.tables e below (T73.setTop (mkF m 96 #[iv p0, iv p1, iv p2, .val (.long q3), .second, iv (1 : Int32), iv (((q3 &&& (65535 : Int64)).toInt32).toUInt32.toUInt16.toUInt32.toInt32), iv (((((q3.toUInt64 >>> ((16 : Int32) &&& 0x3f).toInt64.toUInt64).toInt64) &&& (65535 : Int64)).toInt32).toUInt32.toUInt16.toUInt32.toInt32), iv (((((q3.toUInt64 >>> ((32 : Int32) &&& 0x3f).toInt64.toUInt64).toInt64) &&& (65535 : Int64)).toInt32).toUInt32.toUInt16.toUInt32.toInt32), iv (((((q3.toUInt64 >>> ((48 : Int32) &&& 0x3f).toInt64.toUInt64).toInt64) &&& (65535 : Int64)).toInt32).toUInt32.toUInt16.toUInt32.toInt32), rv sg_45, rv (own_pk ((p0 &&& (2147483647 : Int32)) % (7 : Int32)) w0 w1 w2 w3 w4 w5 w6), rv b63] [(.ref b63)])) t → Steps p.tables e below (s₁.setTop (entryFrame m #[(.int p0), (.int p1), (.int p2), (.long q3)] maxLocals)) t := fun t kt => pre71 t (by
     show Steps _ _ _ (T63.setTop (mkF m 89 #[iv p0, iv p1, iv p2, .val (.long q3), .second, iv (1 : Int32), iv (((q3 &&& (65535 : Int64)).toInt32).toUInt32.toUInt16.toUInt32.toInt32), iv (((((q3.toUInt64 >>> ((16 : Int32) &&& 0x3f).toInt64.toUInt64).toInt64) &&& (65535 : Int64)).toInt32).toUInt32.toUInt16.toUInt32.toInt32), iv (((((q3.toUInt64 >>> ((32 : Int32) &&& 0x3f).toInt64.toUInt64).toInt64) &&& (65535 : Int64)).toInt32).toUInt32.toUInt16.toUInt32.toInt32), iv (((((q3.toUInt64 >>> ((48 : Int32) &&& 0x3f).toInt64.toUInt64).toInt64) &&& (65535 : Int64)).toInt32).toUInt32.toUInt16.toUInt32.toInt32), rv sg_45, rv (own_pk ((p0 &&& (2147483647 : Int32)) % (7 : Int32)) w0 w1 w2 w3 w4 w5 w6), .unset] [(.int p1), (.ref sg_45), (.ref (own_pk ((p0 &&& (2147483647 : Int32)) % (7 : Int32)) w0 w1 w2 w3 w4 w5 w6)), (.ref b63), (.ref b63)])) _
     refine st73.trans ?_
     refine XS.astore X73.here hx rfl (hb hby at_92) rfl rfl (l' := #[iv p0, iv p1, iv p2, .val (.long q3), .second, iv (1 : Int32), iv (((q3 &&& (65535 : Int64)).toInt32).toUInt32.toUInt16.toUInt32.toInt32), iv (((((q3.toUInt64 >>> ((16 : Int32) &&& 0x3f).toInt64.toUInt64).toInt64) &&& (65535 : Int64)).toInt32).toUInt32.toUInt16.toUInt32.toInt32), iv (((((q3.toUInt64 >>> ((32 : Int32) &&& 0x3f).toInt64.toUInt64).toInt64) &&& (65535 : Int64)).toInt32).toUInt32.toUInt16.toUInt32.toInt32), iv (((((q3.toUInt64 >>> ((48 : Int32) &&& 0x3f).toInt64.toUInt64).toInt64) &&& (65535 : Int64)).toInt32).toUInt32.toUInt16.toUInt32.toInt32), rv sg_45, rv (own_pk ((p0 &&& (2147483647 : Int32)) % (7 : Int32)) w0 w1 w2 w3 w4 w5 w6), rv b63]) rfl ?_
     refine XS.aload X73.here hx rfl (hb hby at_94) rfl rfl ?_
     exact kt)
    have f79 : Exa Z T73.heap sg_45 "java/lang/String" := ((f46.ext E63).keep K73)
    have f80 : Fld Z T73.heap sg_45 "java/lang/String" "value" "[B" (.ref t_45) := ((f47.ext E63).keep K73 (ninS ne64 nin0))
    have f81 : Fld Z T73.heap sg_45 "java/lang/String" "coder" "B" (.int cd_45) := ((f48.ext E63).keep K73 (ninS ne64 nin0))
    have f82 : Arv Z T73.heap t_45 kt_45 .byte z_45 vs_45 (.int 0) := ((f49.ext E63).keep K73 (ninS ne65 nin0))
    have f83 : Sta Z T73.heap "java/lang/String" "COMPACT_STRINGS" "Z" (.int zC) := (own_staKeep ((own_staKeep P_S_String_COMPACT_STRINGS K45 ns0).ext E63) K73 (nsS A63.nostat ns0))
    have f84 : n0 ≤ T73.heap.size := (Nat.le_trans f72 K73.1)
    obtain ⟨cq86, kq86, q86a, q86b, q86c⟩ := isOf hZ rfl f74
    obtain ⟨_, _, ⟨T85, L85, k85, n85⟩, -, X85, ⟨Lc85, hQ85, l85, y85, z85⟩, st85⟩ := X73.virtualBack hx (y := own_y16) (z := own_y16) hown (mvT hZ (own_g hw 79 rfl)) (mvT hZ (own_g hw 80 rfl)) (notFace_of_selects (args := #[]) (mvT hZ (own_g hw 82 rfl))) (mvT hZ (own_g hw 82 rfl)) (mvT hZ (own_g hw 81 rfl)) (by decide) (backOf (W := 0) (rmEn l Z a0 hw [] b63 p1 sg_45 t_45 kt_45 z_45 vs_45 cd_45 zC T73.heap n0 f84 f76 f75 f79 f80 f81 f82 f83 hz f51) hZ (own_g hw 83 rfl) (own_g hw 63 rfl) (by decide) (by decide)) q86a q86c (g := (mkF m 96 #[iv p0, iv p1, iv p2, .val (.long q3), .second, iv (1 : Int32), iv (((q3 &&& (65535 : Int64)).toInt32).toUInt32.toUInt16.toUInt32.toInt32), iv (((((q3.toUInt64 >>> ((16 : Int32) &&& 0x3f).toInt64.toUInt64).toInt64) &&& (65535 : Int64)).toInt32).toUInt32.toUInt16.toUInt32.toInt32), iv (((((q3.toUInt64 >>> ((32 : Int32) &&& 0x3f).toInt64.toUInt64).toInt64) &&& (65535 : Int64)).toInt32).toUInt32.toUInt16.toUInt32.toInt32), iv (((((q3.toUInt64 >>> ((48 : Int32) &&& 0x3f).toInt64.toUInt64).toInt64) &&& (65535 : Int64)).toInt32).toUInt32.toUInt16.toUInt32.toInt32), rv sg_45, rv (own_pk ((p0 &&& (2147483647 : Int32)) % (7 : Int32)) w0 w1 w2 w3 w4 w5 w6), rv b63] [(.ref b63)])) rfl (by rw [hml]; rfl) (Steps.refl _) (argsL := []) (rest := []) (lenOf pd___I rfl) rfl (by show 2 * 0 + _ ≤ _; exact Nat.le_of_eq rfl) (hb hby at_96) (fun _ _ => ⟨rfl, rfl, (by decide : 5 + 0 ≤ _), (by decide : 11 + 0 ≤ _)⟩)
    dsimp only [Pt.U, Pt.locs, Pt.cells, Pt.slots] at X85 l85 y85 z85 st85 hQ85
    subst l85 y85 z85
    obtain ⟨rfl, N85q, e85⟩ := hQ85
    have N85 := Fr.app N73 N85q
    obtain ⟨fs, hr, hrun, hended, hW, hsame⟩ := X85.leave (v := some (.int (1 : Int32))) (fun h => by rw [Bd.returns] at h; cases h)
    have f87 : h0.size ≤ T73.heap.size := (Nat.le_trans (Nat.le_trans (Nat.le_trans (Nat.le_refl h0.size) K45.1) E63.1) K73.1)
    have qE := hS0.ended (c := room_1.cells) (k := room_1.slots) hW (show _ ≤ T85.heap.size from (by rw [e85]; exact f87)) (hsame.mono (by decide) (by decide))
    refine ⟨_, _, pre78 _ ?_, hrun, hended, _, _, rfl, ?_, ⟨_, rfl⟩, qE.1, qE.2.1, qE.2.2⟩
    · show Steps _ _ _ (T73.setTop (mkF m 96 #[iv p0, iv p1, iv p2, .val (.long q3), .second, iv (1 : Int32), iv (((q3 &&& (65535 : Int64)).toInt32).toUInt32.toUInt16.toUInt32.toInt32), iv (((((q3.toUInt64 >>> ((16 : Int32) &&& 0x3f).toInt64.toUInt64).toInt64) &&& (65535 : Int64)).toInt32).toUInt32.toUInt16.toUInt32.toInt32), iv (((((q3.toUInt64 >>> ((32 : Int32) &&& 0x3f).toInt64.toUInt64).toInt64) &&& (65535 : Int64)).toInt32).toUInt32.toUInt16.toUInt32.toInt32), iv (((((q3.toUInt64 >>> ((48 : Int32) &&& 0x3f).toInt64.toUInt64).toInt64) &&& (65535 : Int64)).toInt32).toUInt32.toUInt16.toUInt32.toInt32), rv sg_45, rv (own_pk ((p0 &&& (2147483647 : Int32)) % (7 : Int32)) w0 w1 w2 w3 w4 w5 w6), rv b63] [(.ref b63)])) _
      refine st85.trans ?_
      refine XS.iloadN X85.here hx rfl (hb hby at_99) rfl ?_
      refine XS.iload X85.here hx rfl (hb hby at_100) rfl ?_
      refine XS.iadd X85.here hx rfl (hb hby at_102) rfl ?_
      refine XS.icmpNo X85.here hx rfl (hb hby at_103) rfl (teq (congrArg (fun q : Int32 => p1 + q) f50)).2 ?_
      refine XS.iconst X85.here hx rfl (hb hby at_106) ?_
      refine XS.goto X85.here hx rfl (pc0 := 107) (pc' := 111) rfl (hb hby at_107) (by decide) (by decide) ?_
      show Steps _ _ _ (T85.setTop (mkF m 111 #[iv p0, iv p1, iv p2, .val (.long q3), .second, iv (1 : Int32), iv (((q3 &&& (65535 : Int64)).toInt32).toUInt32.toUInt16.toUInt32.toInt32), iv (((((q3.toUInt64 >>> ((16 : Int32) &&& 0x3f).toInt64.toUInt64).toInt64) &&& (65535 : Int64)).toInt32).toUInt32.toUInt16.toUInt32.toInt32), iv (((((q3.toUInt64 >>> ((32 : Int32) &&& 0x3f).toInt64.toUInt64).toInt64) &&& (65535 : Int64)).toInt32).toUInt32.toUInt16.toUInt32.toInt32), iv (((((q3.toUInt64 >>> ((48 : Int32) &&& 0x3f).toInt64.toUInt64).toInt64) &&& (65535 : Int64)).toInt32).toUInt32.toUInt16.toUInt32.toInt32), rv sg_45, rv (own_pk ((p0 &&& (2147483647 : Int32)) % (7 : Int32)) w0 w1 w2 w3 w4 w5 w6), rv b63] [(.int (1 : Int32))])) _
      exact retN X85 hx (t := .boolean) Bd.returns (by simp) (hb hby at_111) hr
    · show own_Q0 n0 _ T85.heap _
      rw [e85]
      exact ⟨rfl, N85⟩
  · rw [hi] at pre1
    have pre88 : ∀ t, Steps p.tables e below (s₁.setTop (mkF m 63 #[iv p0, iv p1, iv p2, .val (.long q3), .second, iv (2 : Int32), iv (((q3 &&& (65535 : Int64)).toInt32).toUInt32.toUInt16.toUInt32.toInt32), iv (((((q3.toUInt64 >>> ((16 : Int32) &&& 0x3f).toInt64.toUInt64).toInt64) &&& (65535 : Int64)).toInt32).toUInt32.toUInt16.toUInt32.toInt32), iv (((((q3.toUInt64 >>> ((32 : Int32) &&& 0x3f).toInt64.toUInt64).toInt64) &&& (65535 : Int64)).toInt32).toUInt32.toUInt16.toUInt32.toInt32), iv (((((q3.toUInt64 >>> ((48 : Int32) &&& 0x3f).toInt64.toUInt64).toInt64) &&& (65535 : Int64)).toInt32).toUInt32.toUInt16.toUInt32.toInt32), .unset, .unset, .unset] [(.int (((((q3.toUInt64 >>> ((48 : Int32) &&& 0x3f).toInt64.toUInt64).toInt64) &&& (65535 : Int64)).toInt32).toUInt32.toUInt16.toUInt32.toInt32)), (.int (((((q3.toUInt64 >>> ((32 : Int32) &&& 0x3f).toInt64.toUInt64).toInt64) &&& (65535 : Int64)).toInt32).toUInt32.toUInt16.toUInt32.toInt32)), (.int (((((q3.toUInt64 >>> ((16 : Int32) &&& 0x3f).toInt64.toUInt64).toInt64) &&& (65535 : Int64)).toInt32).toUInt32.toUInt16.toUInt32.toInt32)), (.int (((q3 &&& (65535 : Int64)).toInt32).toUInt32.toUInt16.toUInt32.toInt32)), (.int (2 : Int32))])) t → Steps p.tables e below (s₁.setTop (entryFrame m #[(.int p0), (.int p1), (.int p2), (.long q3)] maxLocals)) t := fun t kt => pre1 t (by
     refine XS.lloadN X0.here hx rfl (hb hby at_8) rfl ?_
     refine X0.ldc2Long hx hown (mvT hZ (own_g hw 1 rfl)) (g := (mkF m 9 #[iv p0, iv p1, iv p2, .val (.long q3), .second, iv (2 : Int32), .unset, .unset, .unset, .unset, .unset, .unset, .unset] [(.long q3)])) rfl (hb hby at_9) _ ?_
     refine XS.land X0.here hx rfl (hb hby at_12) rfl ?_
     show Steps _ _ _ (s₁.setTop (mkF m 13 #[iv p0, iv p1, iv p2, .val (.long q3), .second, iv (2 : Int32), .unset, .unset, .unset, .unset, .unset, .unset, .unset] [(.long (q3 &&& (65535 : Int64)))])) _
     refine XS.l2i X0.here hx rfl (hb hby at_13) rfl ?_
     refine XS.i2c X0.here hx rfl (hb hby at_14) rfl ?_
     refine XS.istore X0.here hx rfl (hb hby at_15) rfl (l' := #[iv p0, iv p1, iv p2, .val (.long q3), .second, iv (2 : Int32), iv (((q3 &&& (65535 : Int64)).toInt32).toUInt32.toUInt16.toUInt32.toInt32), .unset, .unset, .unset, .unset, .unset, .unset]) rfl ?_
     refine XS.lloadN X0.here hx rfl (hb hby at_17) rfl ?_
     refine XS.bipush X0.here hx rfl (hb hby at_18) ?_
     refine XS.lushr X0.here hx rfl (hb hby at_20) rfl ?_
     refine X0.ldc2Long hx hown (mvT hZ (own_g hw 1 rfl)) (g := (mkF m 21 #[iv p0, iv p1, iv p2, .val (.long q3), .second, iv (2 : Int32), iv (((q3 &&& (65535 : Int64)).toInt32).toUInt32.toUInt16.toUInt32.toInt32), .unset, .unset, .unset, .unset, .unset, .unset] [(.long ((q3.toUInt64 >>> ((16 : Int32) &&& 0x3f).toInt64.toUInt64).toInt64))])) rfl (hb hby at_21) _ ?_
     refine XS.land X0.here hx rfl (hb hby at_24) rfl ?_
     refine XS.l2i X0.here hx rfl (hb hby at_25) rfl ?_
     refine XS.i2c X0.here hx rfl (hb hby at_26) rfl ?_
     refine XS.istore X0.here hx rfl (hb hby at_27) rfl (l' := #[iv p0, iv p1, iv p2, .val (.long q3), .second, iv (2 : Int32), iv (((q3 &&& (65535 : Int64)).toInt32).toUInt32.toUInt16.toUInt32.toInt32), iv (((((q3.toUInt64 >>> ((16 : Int32) &&& 0x3f).toInt64.toUInt64).toInt64) &&& (65535 : Int64)).toInt32).toUInt32.toUInt16.toUInt32.toInt32), .unset, .unset, .unset, .unset, .unset]) rfl ?_
     refine XS.lloadN X0.here hx rfl (hb hby at_29) rfl ?_
     refine XS.bipush X0.here hx rfl (hb hby at_30) ?_
     refine XS.lushr X0.here hx rfl (hb hby at_32) rfl ?_
     refine X0.ldc2Long hx hown (mvT hZ (own_g hw 1 rfl)) (g := (mkF m 33 #[iv p0, iv p1, iv p2, .val (.long q3), .second, iv (2 : Int32), iv (((q3 &&& (65535 : Int64)).toInt32).toUInt32.toUInt16.toUInt32.toInt32), iv (((((q3.toUInt64 >>> ((16 : Int32) &&& 0x3f).toInt64.toUInt64).toInt64) &&& (65535 : Int64)).toInt32).toUInt32.toUInt16.toUInt32.toInt32), .unset, .unset, .unset, .unset, .unset] [(.long ((q3.toUInt64 >>> ((32 : Int32) &&& 0x3f).toInt64.toUInt64).toInt64))])) rfl (hb hby at_33) _ ?_
     refine XS.land X0.here hx rfl (hb hby at_36) rfl ?_
     refine XS.l2i X0.here hx rfl (hb hby at_37) rfl ?_
     refine XS.i2c X0.here hx rfl (hb hby at_38) rfl ?_
     refine XS.istore X0.here hx rfl (hb hby at_39) rfl (l' := #[iv p0, iv p1, iv p2, .val (.long q3), .second, iv (2 : Int32), iv (((q3 &&& (65535 : Int64)).toInt32).toUInt32.toUInt16.toUInt32.toInt32), iv (((((q3.toUInt64 >>> ((16 : Int32) &&& 0x3f).toInt64.toUInt64).toInt64) &&& (65535 : Int64)).toInt32).toUInt32.toUInt16.toUInt32.toInt32), iv (((((q3.toUInt64 >>> ((32 : Int32) &&& 0x3f).toInt64.toUInt64).toInt64) &&& (65535 : Int64)).toInt32).toUInt32.toUInt16.toUInt32.toInt32), .unset, .unset, .unset, .unset]) rfl ?_
     refine XS.lloadN X0.here hx rfl (hb hby at_41) rfl ?_
     refine XS.bipush X0.here hx rfl (hb hby at_42) ?_
     refine XS.lushr X0.here hx rfl (hb hby at_44) rfl ?_
     refine X0.ldc2Long hx hown (mvT hZ (own_g hw 1 rfl)) (g := (mkF m 45 #[iv p0, iv p1, iv p2, .val (.long q3), .second, iv (2 : Int32), iv (((q3 &&& (65535 : Int64)).toInt32).toUInt32.toUInt16.toUInt32.toInt32), iv (((((q3.toUInt64 >>> ((16 : Int32) &&& 0x3f).toInt64.toUInt64).toInt64) &&& (65535 : Int64)).toInt32).toUInt32.toUInt16.toUInt32.toInt32), iv (((((q3.toUInt64 >>> ((32 : Int32) &&& 0x3f).toInt64.toUInt64).toInt64) &&& (65535 : Int64)).toInt32).toUInt32.toUInt16.toUInt32.toInt32), .unset, .unset, .unset, .unset] [(.long ((q3.toUInt64 >>> ((48 : Int32) &&& 0x3f).toInt64.toUInt64).toInt64))])) rfl (hb hby at_45) _ ?_
     refine XS.land X0.here hx rfl (hb hby at_48) rfl ?_
     show Steps _ _ _ (s₁.setTop (mkF m 49 #[iv p0, iv p1, iv p2, .val (.long q3), .second, iv (2 : Int32), iv (((q3 &&& (65535 : Int64)).toInt32).toUInt32.toUInt16.toUInt32.toInt32), iv (((((q3.toUInt64 >>> ((16 : Int32) &&& 0x3f).toInt64.toUInt64).toInt64) &&& (65535 : Int64)).toInt32).toUInt32.toUInt16.toUInt32.toInt32), iv (((((q3.toUInt64 >>> ((32 : Int32) &&& 0x3f).toInt64.toUInt64).toInt64) &&& (65535 : Int64)).toInt32).toUInt32.toUInt16.toUInt32.toInt32), .unset, .unset, .unset, .unset] [(.long (((q3.toUInt64 >>> ((48 : Int32) &&& 0x3f).toInt64.toUInt64).toInt64) &&& (65535 : Int64)))])) _
     refine XS.l2i X0.here hx rfl (hb hby at_49) rfl ?_
     refine XS.i2c X0.here hx rfl (hb hby at_50) rfl ?_
     refine XS.istore X0.here hx rfl (hb hby at_51) rfl (l' := #[iv p0, iv p1, iv p2, .val (.long q3), .second, iv (2 : Int32), iv (((q3 &&& (65535 : Int64)).toInt32).toUInt32.toUInt16.toUInt32.toInt32), iv (((((q3.toUInt64 >>> ((16 : Int32) &&& 0x3f).toInt64.toUInt64).toInt64) &&& (65535 : Int64)).toInt32).toUInt32.toUInt16.toUInt32.toInt32), iv (((((q3.toUInt64 >>> ((32 : Int32) &&& 0x3f).toInt64.toUInt64).toInt64) &&& (65535 : Int64)).toInt32).toUInt32.toUInt16.toUInt32.toInt32), iv (((((q3.toUInt64 >>> ((48 : Int32) &&& 0x3f).toInt64.toUInt64).toInt64) &&& (65535 : Int64)).toInt32).toUInt32.toUInt16.toUInt32.toInt32), .unset, .unset, .unset]) rfl ?_
     refine XS.iload X0.here hx rfl (hb hby at_53) rfl ?_
     refine XS.iload X0.here hx rfl (hb hby at_55) rfl ?_
     refine XS.iload X0.here hx rfl (hb hby at_57) rfl ?_
     refine XS.iload X0.here hx rfl (hb hby at_59) rfl ?_
     refine XS.iload X0.here hx rfl (hb hby at_61) rfl ?_
     exact kt)
    obtain ⟨_, _, ⟨T89, L89, k89, n89⟩, -, X89, ⟨Lc89, hQ89, l89, y89, z89⟩, st89⟩ := Jvm.LawKit.callS X0 hx (y := own_y10) hown (mvT hZ (own_g hw 2 rfl)) (mvT hZ (own_g hw 3 rfl)) (mvT hZ (own_g hw 4 rfl)) (mvT hZ (own_g hw 5 rfl)) (by decide) (backOf (W := 0) (rmMk_2 l Z a0 hw [] (((q3 &&& (65535 : Int64)).toInt32).toUInt32.toUInt16.toUInt32.toInt32) (((((q3.toUInt64 >>> ((16 : Int32) &&& 0x3f).toInt64.toUInt64).toInt64) &&& (65535 : Int64)).toInt32).toUInt32.toUInt16.toUInt32.toInt32) (((((q3.toUInt64 >>> ((32 : Int32) &&& 0x3f).toInt64.toUInt64).toInt64) &&& (65535 : Int64)).toInt32).toUInt32.toUInt16.toUInt32.toInt32) (((((q3.toUInt64 >>> ((48 : Int32) &&& 0x3f).toInt64.toUInt64).toInt64) &&& (65535 : Int64)).toInt32).toUInt32.toUInt16.toUInt32.toInt32) zC h0 n0 Z0 P_S_StringUTF16__assertionsDisabled P_S_StringUTF16_HI_BYTE_SHIFT P_S_StringUTF16_LO_BYTE_SHIFT P_S_String_COMPACT_STRINGS hz) hZ (own_g hw 5 rfl) (own_g hw 4 rfl) (by decide) (by decide)) (g := (mkF m 63 #[iv p0, iv p1, iv p2, .val (.long q3), .second, iv (2 : Int32), iv (((q3 &&& (65535 : Int64)).toInt32).toUInt32.toUInt16.toUInt32.toInt32), iv (((((q3.toUInt64 >>> ((16 : Int32) &&& 0x3f).toInt64.toUInt64).toInt64) &&& (65535 : Int64)).toInt32).toUInt32.toUInt16.toUInt32.toInt32), iv (((((q3.toUInt64 >>> ((32 : Int32) &&& 0x3f).toInt64.toUInt64).toInt64) &&& (65535 : Int64)).toInt32).toUInt32.toUInt16.toUInt32.toInt32), iv (((((q3.toUInt64 >>> ((48 : Int32) &&& 0x3f).toInt64.toUInt64).toInt64) &&& (65535 : Int64)).toInt32).toUInt32.toUInt16.toUInt32.toInt32), .unset, .unset, .unset] [(.int (((((q3.toUInt64 >>> ((48 : Int32) &&& 0x3f).toInt64.toUInt64).toInt64) &&& (65535 : Int64)).toInt32).toUInt32.toUInt16.toUInt32.toInt32)), (.int (((((q3.toUInt64 >>> ((32 : Int32) &&& 0x3f).toInt64.toUInt64).toInt64) &&& (65535 : Int64)).toInt32).toUInt32.toUInt16.toUInt32.toInt32)), (.int (((((q3.toUInt64 >>> ((16 : Int32) &&& 0x3f).toInt64.toUInt64).toInt64) &&& (65535 : Int64)).toInt32).toUInt32.toUInt16.toUInt32.toInt32)), (.int (((q3 &&& (65535 : Int64)).toInt32).toUInt32.toUInt16.toUInt32.toInt32)), (.int (2 : Int32))])) rfl (by rw [hml]; rfl) (argsL := [(.int (2 : Int32)), (.int (((q3 &&& (65535 : Int64)).toInt32).toUInt32.toUInt16.toUInt32.toInt32)), (.int (((((q3.toUInt64 >>> ((16 : Int32) &&& 0x3f).toInt64.toUInt64).toInt64) &&& (65535 : Int64)).toInt32).toUInt32.toUInt16.toUInt32.toInt32)), (.int (((((q3.toUInt64 >>> ((32 : Int32) &&& 0x3f).toInt64.toUInt64).toInt64) &&& (65535 : Int64)).toInt32).toUInt32.toUInt16.toUInt32.toInt32)), (.int (((((q3.toUInt64 >>> ((48 : Int32) &&& 0x3f).toInt64.toUInt64).toInt64) &&& (65535 : Int64)).toInt32).toUInt32.toUInt16.toUInt32.toInt32))]) (rest := []) (lenOf pd__ICCCC_Ljava_lang_String_ rfl) rfl (by show 2 * 0 + _ ≤ _; exact Nat.le_of_eq rfl) (hb hby at_63) (fun _ _ => ⟨rfl, e0, (by decide : 0 + 4 ≤ _), (by decide : 0 + 12 ≤ _)⟩)
    dsimp only [Pt.U, Pt.locs, Pt.cells, Pt.slots] at X89 l89 y89 z89 st89 hQ89
    subst l89 y89 z89
    obtain ⟨sg_89, t_89, kt_89, z_89, vs_89, cd_89, rfl, N89q, K89, sx89_0, sx89_1, px89_0, f90, f91, f92, f93, f94, f95⟩ := hQ89
    have osg_89 : n0 ≤ sg_89 := Nat.le_trans Z0 sx89_0
    have zsg_89 : h0.size ≤ sg_89 := Nat.le_trans (Keep.refl h0 []).1 sx89_0
    have ot_89 : n0 ≤ t_89 := Nat.le_trans Z0 sx89_1
    have zt_89 : h0.size ≤ t_89 := Nat.le_trans (Keep.refl h0 []).1 sx89_1
    have KK89 : Keep h0 T89.heap [] := Keep.trans (Keep.refl h0 []) K89 all0
    have CH96 : CHr Z own_EL s.vm h0 s.vm T89.heap := CH0.trans (CHr.keep K89 sf0 CH0.1)
    have N89 := Fr.app N0 N89q
    have pre97 : ∀ t, Steps p.tables e below (T89.setTop (mkF m 75 #[iv p0, iv p1, iv p2, .val (.long q3), .second, iv (2 : Int32), iv (((q3 &&& (65535 : Int64)).toInt32).toUInt32.toUInt16.toUInt32.toInt32), iv (((((q3.toUInt64 >>> ((16 : Int32) &&& 0x3f).toInt64.toUInt64).toInt64) &&& (65535 : Int64)).toInt32).toUInt32.toUInt16.toUInt32.toInt32), iv (((((q3.toUInt64 >>> ((32 : Int32) &&& 0x3f).toInt64.toUInt64).toInt64) &&& (65535 : Int64)).toInt32).toUInt32.toUInt16.toUInt32.toInt32), iv (((((q3.toUInt64 >>> ((48 : Int32) &&& 0x3f).toInt64.toUInt64).toInt64) &&& (65535 : Int64)).toInt32).toUInt32.toUInt16.toUInt32.toInt32), rv sg_89, .unset, .unset] [(.int ((p0 &&& (2147483647 : Int32)) % (7 : Int32)))])) t → Steps p.tables e below (s₁.setTop (entryFrame m #[(.int p0), (.int p1), (.int p2), (.long q3)] maxLocals)) t := fun t kt => pre88 t (by
     show Steps _ _ _ (s₁.setTop (mkF m 63 #[iv p0, iv p1, iv p2, .val (.long q3), .second, iv (2 : Int32), iv (((q3 &&& (65535 : Int64)).toInt32).toUInt32.toUInt16.toUInt32.toInt32), iv (((((q3.toUInt64 >>> ((16 : Int32) &&& 0x3f).toInt64.toUInt64).toInt64) &&& (65535 : Int64)).toInt32).toUInt32.toUInt16.toUInt32.toInt32), iv (((((q3.toUInt64 >>> ((32 : Int32) &&& 0x3f).toInt64.toUInt64).toInt64) &&& (65535 : Int64)).toInt32).toUInt32.toUInt16.toUInt32.toInt32), iv (((((q3.toUInt64 >>> ((48 : Int32) &&& 0x3f).toInt64.toUInt64).toInt64) &&& (65535 : Int64)).toInt32).toUInt32.toUInt16.toUInt32.toInt32), .unset, .unset, .unset] [(.int (((((q3.toUInt64 >>> ((48 : Int32) &&& 0x3f).toInt64.toUInt64).toInt64) &&& (65535 : Int64)).toInt32).toUInt32.toUInt16.toUInt32.toInt32)), (.int (((((q3.toUInt64 >>> ((32 : Int32) &&& 0x3f).toInt64.toUInt64).toInt64) &&& (65535 : Int64)).toInt32).toUInt32.toUInt16.toUInt32.toInt32)), (.int (((((q3.toUInt64 >>> ((16 : Int32) &&& 0x3f).toInt64.toUInt64).toInt64) &&& (65535 : Int64)).toInt32).toUInt32.toUInt16.toUInt32.toInt32)), (.int (((q3 &&& (65535 : Int64)).toInt32).toUInt32.toUInt16.toUInt32.toInt32)), (.int (2 : Int32))])) _
     refine st89 _ ?_
     refine XS.astore X89.here hx rfl (hb hby at_66) rfl rfl (l' := #[iv p0, iv p1, iv p2, .val (.long q3), .second, iv (2 : Int32), iv (((q3 &&& (65535 : Int64)).toInt32).toUInt32.toUInt16.toUInt32.toInt32), iv (((((q3.toUInt64 >>> ((16 : Int32) &&& 0x3f).toInt64.toUInt64).toInt64) &&& (65535 : Int64)).toInt32).toUInt32.toUInt16.toUInt32.toInt32), iv (((((q3.toUInt64 >>> ((32 : Int32) &&& 0x3f).toInt64.toUInt64).toInt64) &&& (65535 : Int64)).toInt32).toUInt32.toUInt16.toUInt32.toInt32), iv (((((q3.toUInt64 >>> ((48 : Int32) &&& 0x3f).toInt64.toUInt64).toInt64) &&& (65535 : Int64)).toInt32).toUInt32.toUInt16.toUInt32.toInt32), rv sg_89, .unset, .unset]) rfl ?_
     refine XS.iloadN X89.here hx rfl (hb hby at_68) rfl ?_
     refine X89.ldcInt hx hown (mvT hZ (own_g hw 0 rfl)) (g := (mkF m 69 #[iv p0, iv p1, iv p2, .val (.long q3), .second, iv (2 : Int32), iv (((q3 &&& (65535 : Int64)).toInt32).toUInt32.toUInt16.toUInt32.toInt32), iv (((((q3.toUInt64 >>> ((16 : Int32) &&& 0x3f).toInt64.toUInt64).toInt64) &&& (65535 : Int64)).toInt32).toUInt32.toUInt16.toUInt32.toInt32), iv (((((q3.toUInt64 >>> ((32 : Int32) &&& 0x3f).toInt64.toUInt64).toInt64) &&& (65535 : Int64)).toInt32).toUInt32.toUInt16.toUInt32.toInt32), iv (((((q3.toUInt64 >>> ((48 : Int32) &&& 0x3f).toInt64.toUInt64).toInt64) &&& (65535 : Int64)).toInt32).toUInt32.toUInt16.toUInt32.toInt32), rv sg_89, .unset, .unset] [(.int p0)])) rfl (hb hby at_69) _ ?_
     refine XS.iand X89.here hx rfl (hb hby at_71) rfl ?_
     refine XS.bipush X89.here hx rfl (hb hby at_72) ?_
     refine iremM X89 hx rfl (hb hby at_74) rfl (by decide : ¬ ((7 : Int32) = (0 : Int32))) ?_
     exact kt)
    have f98 : Sta Z T89.heap "com/example/apq/apq/jpql/Token$Kind" "WORD" "Lcom/example/apq/apq/jpql/Token$Kind;" (.ref w0) := (own_staKeep P_S_Token_Kind_WORD K89 ns0)
    have f99 : Sta Z T89.heap "com/example/apq/apq/jpql/Token$Kind" "STRING" "Lcom/example/apq/apq/jpql/Token$Kind;" (.ref w1) := (own_staKeep P_S_Token_Kind_STRING K89 ns0)
    have f100 : Sta Z T89.heap "com/example/apq/apq/jpql/Token$Kind" "NUMBER" "Lcom/example/apq/apq/jpql/Token$Kind;" (.ref w2) := (own_staKeep P_S_Token_Kind_NUMBER K89 ns0)
    have f101 : Sta Z T89.heap "com/example/apq/apq/jpql/Token$Kind" "DATETIME" "Lcom/example/apq/apq/jpql/Token$Kind;" (.ref w3) := (own_staKeep P_S_Token_Kind_DATETIME K89 ns0)
    have f102 : Sta Z T89.heap "com/example/apq/apq/jpql/Token$Kind" "PARAMETER" "Lcom/example/apq/apq/jpql/Token$Kind;" (.ref w4) := (own_staKeep P_S_Token_Kind_PARAMETER K89 ns0)
    have f103 : Sta Z T89.heap "com/example/apq/apq/jpql/Token$Kind" "SYMBOL" "Lcom/example/apq/apq/jpql/Token$Kind;" (.ref w5) := (own_staKeep P_S_Token_Kind_SYMBOL K89 ns0)
    have f104 : Sta Z T89.heap "com/example/apq/apq/jpql/Token$Kind" "END" "Lcom/example/apq/apq/jpql/Token$Kind;" (.ref w6) := (own_staKeep P_S_Token_Kind_END K89 ns0)
    have f105 : n0 ≤ T89.heap.size := (Nat.le_trans Z0 K89.1)
    obtain ⟨_, _, ⟨T106, L106, k106, n106⟩, -, X106, ⟨Lc106, hQ106, l106, y106, z106⟩, st106⟩ := Jvm.LawKit.callS X89 hx (y := own_y11) hown (mvT hZ (own_g hw 55 rfl)) (mvT hZ (own_g hw 56 rfl)) (mvT hZ (own_g hw 4 rfl)) (mvT hZ (own_g hw 57 rfl)) (by decide) (backOf (W := 0) (rmPK l Z a0 hw [] ((p0 &&& (2147483647 : Int32)) % (7 : Int32)) w0 w1 w2 w3 w4 w5 w6 T89.heap n0 f105 f98 f99 f100 f101 f102 f103 f104) hZ (own_g hw 57 rfl) (own_g hw 4 rfl) (by decide) (by decide)) (g := (mkF m 75 #[iv p0, iv p1, iv p2, .val (.long q3), .second, iv (2 : Int32), iv (((q3 &&& (65535 : Int64)).toInt32).toUInt32.toUInt16.toUInt32.toInt32), iv (((((q3.toUInt64 >>> ((16 : Int32) &&& 0x3f).toInt64.toUInt64).toInt64) &&& (65535 : Int64)).toInt32).toUInt32.toUInt16.toUInt32.toInt32), iv (((((q3.toUInt64 >>> ((32 : Int32) &&& 0x3f).toInt64.toUInt64).toInt64) &&& (65535 : Int64)).toInt32).toUInt32.toUInt16.toUInt32.toInt32), iv (((((q3.toUInt64 >>> ((48 : Int32) &&& 0x3f).toInt64.toUInt64).toInt64) &&& (65535 : Int64)).toInt32).toUInt32.toUInt16.toUInt32.toInt32), rv sg_89, .unset, .unset] [(.int ((p0 &&& (2147483647 : Int32)) % (7 : Int32)))])) rfl (by rw [hml]; rfl) (argsL := [(.int ((p0 &&& (2147483647 : Int32)) % (7 : Int32)))]) (rest := []) (lenOf pd__I_Lcom_example_apq_apq_jpql_Token_Kind_ rfl) rfl (by show 2 * 0 + _ ≤ _; exact Nat.le_of_eq rfl) (hb hby at_75) (fun _ _ => ⟨rfl, rfl, (by decide : 4 + 0 ≤ _), (by decide : 12 + 0 ≤ _)⟩)
    dsimp only [Pt.U, Pt.locs, Pt.cells, Pt.slots] at X106 l106 y106 z106 st106 hQ106
    subst l106 y106 z106
    obtain ⟨rfl, N106q, e106⟩ := hQ106
    have N106 := Fr.app N89 N106q
    obtain ⟨T107, h107, X107, e107, E107, A107, D107, U107, st107⟩ := newO X106 hx hZ hown (own_g hw 61 rfl) (own_g hw 62 rfl) (own_g hw 63 rfl) e106 (g := (mkF m 80 #[iv p0, iv p1, iv p2, .val (.long q3), .second, iv (2 : Int32), iv (((q3 &&& (65535 : Int64)).toInt32).toUInt32.toUInt16.toUInt32.toInt32), iv (((((q3.toUInt64 >>> ((16 : Int32) &&& 0x3f).toInt64.toUInt64).toInt64) &&& (65535 : Int64)).toInt32).toUInt32.toUInt16.toUInt32.toInt32), iv (((((q3.toUInt64 >>> ((32 : Int32) &&& 0x3f).toInt64.toUInt64).toInt64) &&& (65535 : Int64)).toInt32).toUInt32.toUInt16.toUInt32.toInt32), iv (((((q3.toUInt64 >>> ((48 : Int32) &&& 0x3f).toInt64.toUInt64).toInt64) &&& (65535 : Int64)).toInt32).toUInt32.toUInt16.toUInt32.toInt32), rv sg_89, rv (own_pk ((p0 &&& (2147483647 : Int32)) % (7 : Int32)) w0 w1 w2 w3 w4 w5 w6), .unset] [])) rfl (hb hby at_80) (by decide) (by decide)
    obtain ⟨b107, g107⟩ : ∃ z, z = T89.heap.size := ⟨_, rfl⟩
    rw [← g107] at A107 D107 U107 st107
    have ne108 : sg_89 ≠ b107 := Nat.ne_of_lt (Nat.lt_of_lt_of_le f90.lt (Nat.le_of_eq g107.symm))
    have ne109 : t_89 ≠ b107 := Nat.ne_of_lt (Nat.lt_of_lt_of_le f93.lt (Nat.le_of_eq g107.symm))
    have o107 : n0 ≤ b107 := Nat.le_trans f105 (Nat.le_of_eq g107.symm)
    have z107 : h0.size ≤ b107 := Nat.le_trans KK89.1 (Nat.le_of_eq g107.symm)
    have CH110 : CHr Z own_EL s.vm h0 s.vm h107 := CH96.trans (CHr.ext E107 CH96.1)
    have Yb111 : Safe Z own_EL s.vm h107 b107 := Safe.ext E107 CH96.1 (Safe.new (Nat.le_of_eq g107.symm))
    have K107 : Keep h0 h107 [] := KK89.ext E107
    have f112 : Fld Z h107 b107 "com/example/apq/apq/jpql/Token" "kind" "Lcom/example/apq/apq/jpql/Token$Kind;" .null := D107 (Or.inr (own_g hw 74 rfl)) (ty := (.object "com/example/apq/apq/jpql/Token$Kind")) (by decide)
    have f113 : Fld Z h107 b107 "com/example/apq/apq/jpql/Token" "text" "Ljava/lang/String;" .null := D107 (Or.inr (own_g hw 76 rfl)) (ty := (.object "java/lang/String")) (by decide)
    have f114 : Fld Z h107 b107 "com/example/apq/apq/jpql/Token" "offset" "I" (.int (0 : Int32)) := D107 (Or.inr (own_g hw 78 rfl)) (ty := .int) (by decide)
    have pre115 : ∀ t, Steps p.tables e below (T107.setTop (mkF m 89 #[iv p0, iv p1, iv p2, .val (.long q3), .second, iv (2 : Int32), iv (((q3 &&& (65535 : Int64)).toInt32).toUInt32.toUInt16.toUInt32.toInt32), iv (((((q3.toUInt64 >>> ((16 : Int32) &&& 0x3f).toInt64.toUInt64).toInt64) &&& (65535 : Int64)).toInt32).toUInt32.toUInt16.toUInt32.toInt32), iv (((((q3.toUInt64 >>> ((32 : Int32) &&& 0x3f).toInt64.toUInt64).toInt64) &&& (65535 : Int64)).toInt32).toUInt32.toUInt16.toUInt32.toInt32), iv (((((q3.toUInt64 >>> ((48 : Int32) &&& 0x3f).toInt64.toUInt64).toInt64) &&& (65535 : Int64)).toInt32).toUInt32.toUInt16.toUInt32.toInt32), rv sg_89, rv (own_pk ((p0 &&& (2147483647 : Int32)) % (7 : Int32)) w0 w1 w2 w3 w4 w5 w6), .unset] [(.int p1), (.ref sg_89), (.ref (own_pk ((p0 &&& (2147483647 : Int32)) % (7 : Int32)) w0 w1 w2 w3 w4 w5 w6)), (.ref b107), (.ref b107)])) t → Steps p.tables e below (s₁.setTop (entryFrame m #[(.int p0), (.int p1), (.int p2), (.long q3)] maxLocals)) t := fun t kt => pre97 t (by
     show Steps _ _ _ (T89.setTop (mkF m 75 #[iv p0, iv p1, iv p2, .val (.long q3), .second, iv (2 : Int32), iv (((q3 &&& (65535 : Int64)).toInt32).toUInt32.toUInt16.toUInt32.toInt32), iv (((((q3.toUInt64 >>> ((16 : Int32) &&& 0x3f).toInt64.toUInt64).toInt64) &&& (65535 : Int64)).toInt32).toUInt32.toUInt16.toUInt32.toInt32), iv (((((q3.toUInt64 >>> ((32 : Int32) &&& 0x3f).toInt64.toUInt64).toInt64) &&& (65535 : Int64)).toInt32).toUInt32.toUInt16.toUInt32.toInt32), iv (((((q3.toUInt64 >>> ((48 : Int32) &&& 0x3f).toInt64.toUInt64).toInt64) &&& (65535 : Int64)).toInt32).toUInt32.toUInt16.toUInt32.toInt32), rv sg_89, .unset, .unset] [(.int ((p0 &&& (2147483647 : Int32)) % (7 : Int32)))])) _
     refine st106 _ ?_
     refine XS.astore X106.here hx rfl (hb hby at_78) rfl rfl (l' := #[iv p0, iv p1, iv p2, .val (.long q3), .second, iv (2 : Int32), iv (((q3 &&& (65535 : Int64)).toInt32).toUInt32.toUInt16.toUInt32.toInt32), iv (((((q3.toUInt64 >>> ((16 : Int32) &&& 0x3f).toInt64.toUInt64).toInt64) &&& (65535 : Int64)).toInt32).toUInt32.toUInt16.toUInt32.toInt32), iv (((((q3.toUInt64 >>> ((32 : Int32) &&& 0x3f).toInt64.toUInt64).toInt64) &&& (65535 : Int64)).toInt32).toUInt32.toUInt16.toUInt32.toInt32), iv (((((q3.toUInt64 >>> ((48 : Int32) &&& 0x3f).toInt64.toUInt64).toInt64) &&& (65535 : Int64)).toInt32).toUInt32.toUInt16.toUInt32.toInt32), rv sg_89, rv (own_pk ((p0 &&& (2147483647 : Int32)) % (7 : Int32)) w0 w1 w2 w3 w4 w5 w6), .unset]) rfl ?_
     refine st107 _ ?_
     refine XS.dup X107.here hx rfl (hb hby at_83) rfl rfl ?_
     refine XS.aload X107.here hx rfl (hb hby at_84) rfl rfl ?_
     refine XS.aload X107.here hx rfl (hb hby at_86) rfl rfl ?_
     refine XS.iloadN X107.here hx rfl (hb hby at_88) rfl ?_
     exact kt)
    have f116 : n0 ≤ h107.size := (Nat.le_trans f105 E107.1)
    obtain ⟨_, _, ⟨T117, L117, k117, n117⟩, -, X117, ⟨Lc117, hQ117, l117, y117, z117⟩, st117⟩ := X107.specialBack hx (y := own_y13) rfl hown (mvT hZ (own_g hw 64 rfl)) (mvT hZ (own_g hw 65 rfl)) (mvT hZ (own_g hw 66 rfl)) (by decide) (backOf (W := 1) (rmTI l Z a0 hw [] b107 (own_pk ((p0 &&& (2147483647 : Int32)) % (7 : Int32)) w0 w1 w2 w3 w4 w5 w6) sg_89 p1 h107 n0 f116 A107 f112 f113 f114 o107) hZ (own_g hw 66 rfl) (own_g hw 63 rfl) (by decide) (by decide)) (g := (mkF m 89 #[iv p0, iv p1, iv p2, .val (.long q3), .second, iv (2 : Int32), iv (((q3 &&& (65535 : Int64)).toInt32).toUInt32.toUInt16.toUInt32.toInt32), iv (((((q3.toUInt64 >>> ((16 : Int32) &&& 0x3f).toInt64.toUInt64).toInt64) &&& (65535 : Int64)).toInt32).toUInt32.toUInt16.toUInt32.toInt32), iv (((((q3.toUInt64 >>> ((32 : Int32) &&& 0x3f).toInt64.toUInt64).toInt64) &&& (65535 : Int64)).toInt32).toUInt32.toUInt16.toUInt32.toInt32), iv (((((q3.toUInt64 >>> ((48 : Int32) &&& 0x3f).toInt64.toUInt64).toInt64) &&& (65535 : Int64)).toInt32).toUInt32.toUInt16.toUInt32.toInt32), rv sg_89, rv (own_pk ((p0 &&& (2147483647 : Int32)) % (7 : Int32)) w0 w1 w2 w3 w4 w5 w6), .unset] [(.int p1), (.ref sg_89), (.ref (own_pk ((p0 &&& (2147483647 : Int32)) % (7 : Int32)) w0 w1 w2 w3 w4 w5 w6)), (.ref b107), (.ref b107)])) rfl (by rw [hml]; rfl) (Steps.refl _) (a := b107) (argsL := [(.ref (own_pk ((p0 &&& (2147483647 : Int32)) % (7 : Int32)) w0 w1 w2 w3 w4 w5 w6)), (.ref sg_89), (.int p1)]) (rest := [(.ref b107)]) (lenOf pd__Lcom_example_apq_apq_jpql_Token_Kind_Ljava_lang_String_I_V rfl) rfl (by show 2 * 0 + _ ≤ _; exact Nat.le_of_eq rfl) (hb hby at_89) (fun _ _ => ⟨rfl, e107, (by decide : 5 + 0 ≤ _), (by decide : 15 + 0 ≤ _)⟩)
    dsimp only [Pt.U, Pt.locs, Pt.cells, Pt.slots] at X117 l117 y117 z117 st117 hQ117
    subst l117 y117 z117
    obtain ⟨rfl, N117q, K117, f118, f119, f120⟩ := hQ117
    have KK117 : Keep h0 T117.heap [] := Keep.trans K107 K117 (allS (Or.inr z107) all0)
    have CH121 : CHr Z own_EL s.vm h0 s.vm T117.heap := CH110.trans (CHr.keep K117 (sfS Yb111 sf0) CH110.1)
    have N117 := Fr.app N106 N117q
    have pre122 : ∀ t, Steps p.tables e below (T117.setTop (mkF m 96 #[iv p0, iv p1, iv p2, .val (.long q3), .second, iv (2 : Int32), iv (((q3 &&& (65535 : Int64)).toInt32).toUInt32.toUInt16.toUInt32.toInt32), iv (((((q3.toUInt64 >>> ((16 : Int32) &&& 0x3f).toInt64.toUInt64).toInt64) &&& (65535 : Int64)).toInt32).toUInt32.toUInt16.toUInt32.toInt32), iv (((((q3.toUInt64 >>> ((32 : Int32) &&& 0x3f).toInt64.toUInt64).toInt64) &&& (65535 : Int64)).toInt32).toUInt32.toUInt16.toUInt32.toInt32), iv (((((q3.toUInt64 >>> ((48 : Int32) &&& 0x3f).toInt64.toUInt64).toInt64) &&& (65535 : Int64)).toInt32).toUInt32.toUInt16.toUInt32.toInt32), rv sg_89, rv (own_pk ((p0 &&& (2147483647 : Int32)) % (7 : Int32)) w0 w1 w2 w3 w4 w5 w6), rv b107] [(.ref b107)])) t → Steps p.tables e below (s₁.setTop (entryFrame m #[(.int p0), (.int p1), (.int p2), (.long q3)] maxLocals)) t := fun t kt => pre115 t (by
     show Steps _ _ _ (T107.setTop (mkF m 89 #[iv p0, iv p1, iv p2, .val (.long q3), .second, iv (2 : Int32), iv (((q3 &&& (65535 : Int64)).toInt32).toUInt32.toUInt16.toUInt32.toInt32), iv (((((q3.toUInt64 >>> ((16 : Int32) &&& 0x3f).toInt64.toUInt64).toInt64) &&& (65535 : Int64)).toInt32).toUInt32.toUInt16.toUInt32.toInt32), iv (((((q3.toUInt64 >>> ((32 : Int32) &&& 0x3f).toInt64.toUInt64).toInt64) &&& (65535 : Int64)).toInt32).toUInt32.toUInt16.toUInt32.toInt32), iv (((((q3.toUInt64 >>> ((48 : Int32) &&& 0x3f).toInt64.toUInt64).toInt64) &&& (65535 : Int64)).toInt32).toUInt32.toUInt16.toUInt32.toInt32), rv sg_89, rv (own_pk ((p0 &&& (2147483647 : Int32)) % (7 : Int32)) w0 w1 w2 w3 w4 w5 w6), .unset] [(.int p1), (.ref sg_89), (.ref (own_pk ((p0 &&& (2147483647 : Int32)) % (7 : Int32)) w0 w1 w2 w3 w4 w5 w6)), (.ref b107), (.ref b107)])) _
     refine st117.trans ?_
     refine XS.astore X117.here hx rfl (hb hby at_92) rfl rfl (l' := #[iv p0, iv p1, iv p2, .val (.long q3), .second, iv (2 : Int32), iv (((q3 &&& (65535 : Int64)).toInt32).toUInt32.toUInt16.toUInt32.toInt32), iv (((((q3.toUInt64 >>> ((16 : Int32) &&& 0x3f).toInt64.toUInt64).toInt64) &&& (65535 : Int64)).toInt32).toUInt32.toUInt16.toUInt32.toInt32), iv (((((q3.toUInt64 >>> ((32 : Int32) &&& 0x3f).toInt64.toUInt64).toInt64) &&& (65535 : Int64)).toInt32).toUInt32.toUInt16.toUInt32.toInt32), iv (((((q3.toUInt64 >>> ((48 : Int32) &&& 0x3f).toInt64.toUInt64).toInt64) &&& (65535 : Int64)).toInt32).toUInt32.toUInt16.toUInt32.toInt32), rv sg_89, rv (own_pk ((p0 &&& (2147483647 : Int32)) % (7 : Int32)) w0 w1 w2 w3 w4 w5 w6), rv b107]) rfl ?_
     refine XS.aload X117.here hx rfl (hb hby at_94) rfl rfl ?_
     exact kt)
    have f123 : Exa Z T117.heap sg_89 "java/lang/String" := ((f90.ext E107).keep K117)
    have f124 : Fld Z T117.heap sg_89 "java/lang/String" "value" "[B" (.ref t_89) := ((f91.ext E107).keep K117 (ninS ne108 nin0))
    have f125 : Fld Z T117.heap sg_89 "java/lang/String" "coder" "B" (.int cd_89) := ((f92.ext E107).keep K117 (ninS ne108 nin0))
    have f126 : Arv Z T117.heap t_89 kt_89 .byte z_89 vs_89 (.int 0) := ((f93.ext E107).keep K117 (ninS ne109 nin0))
    have f127 : Sta Z T117.heap "java/lang/String" "COMPACT_STRINGS" "Z" (.int zC) := (own_staKeep ((own_staKeep P_S_String_COMPACT_STRINGS K89 ns0).ext E107) K117 (nsS A107.nostat ns0))
    have f128 : n0 ≤ T117.heap.size := (Nat.le_trans f116 K117.1)
    obtain ⟨cq130, kq130, q130a, q130b, q130c⟩ := isOf hZ rfl f118
    obtain ⟨_, _, ⟨T129, L129, k129, n129⟩, -, X129, ⟨Lc129, hQ129, l129, y129, z129⟩, st129⟩ := X117.virtualBack hx (y := own_y16) (z := own_y16) hown (mvT hZ (own_g hw 79 rfl)) (mvT hZ (own_g hw 80 rfl)) (notFace_of_selects (args := #[]) (mvT hZ (own_g hw 82 rfl))) (mvT hZ (own_g hw 82 rfl)) (mvT hZ (own_g hw 81 rfl)) (by decide) (backOf (W := 0) (rmEn l Z a0 hw [] b107 p1 sg_89 t_89 kt_89 z_89 vs_89 cd_89 zC T117.heap n0 f128 f120 f119 f123 f124 f125 f126 f127 hz f95) hZ (own_g hw 83 rfl) (own_g hw 63 rfl) (by decide) (by decide)) q130a q130c (g := (mkF m 96 #[iv p0, iv p1, iv p2, .val (.long q3), .second, iv (2 : Int32), iv (((q3 &&& (65535 : Int64)).toInt32).toUInt32.toUInt16.toUInt32.toInt32), iv (((((q3.toUInt64 >>> ((16 : Int32) &&& 0x3f).toInt64.toUInt64).toInt64) &&& (65535 : Int64)).toInt32).toUInt32.toUInt16.toUInt32.toInt32), iv (((((q3.toUInt64 >>> ((32 : Int32) &&& 0x3f).toInt64.toUInt64).toInt64) &&& (65535 : Int64)).toInt32).toUInt32.toUInt16.toUInt32.toInt32), iv (((((q3.toUInt64 >>> ((48 : Int32) &&& 0x3f).toInt64.toUInt64).toInt64) &&& (65535 : Int64)).toInt32).toUInt32.toUInt16.toUInt32.toInt32), rv sg_89, rv (own_pk ((p0 &&& (2147483647 : Int32)) % (7 : Int32)) w0 w1 w2 w3 w4 w5 w6), rv b107] [(.ref b107)])) rfl (by rw [hml]; rfl) (Steps.refl _) (argsL := []) (rest := []) (lenOf pd___I rfl) rfl (by show 2 * 0 + _ ≤ _; exact Nat.le_of_eq rfl) (hb hby at_96) (fun _ _ => ⟨rfl, rfl, (by decide : 5 + 0 ≤ _), (by decide : 15 + 0 ≤ _)⟩)
    dsimp only [Pt.U, Pt.locs, Pt.cells, Pt.slots] at X129 l129 y129 z129 st129 hQ129
    subst l129 y129 z129
    obtain ⟨rfl, N129q, e129⟩ := hQ129
    have N129 := Fr.app N117 N129q
    obtain ⟨fs, hr, hrun, hended, hW, hsame⟩ := X129.leave (v := some (.int (1 : Int32))) (fun h => by rw [Bd.returns] at h; cases h)
    have f131 : h0.size ≤ T117.heap.size := (Nat.le_trans (Nat.le_trans (Nat.le_trans (Nat.le_refl h0.size) K89.1) E107.1) K117.1)
    have qE := hS0.ended (c := room_1.cells) (k := room_1.slots) hW (show _ ≤ T129.heap.size from (by rw [e129]; exact f131)) (hsame.mono (by decide) (by decide))
    refine ⟨_, _, pre122 _ ?_, hrun, hended, _, _, rfl, ?_, ⟨_, rfl⟩, qE.1, qE.2.1, qE.2.2⟩
    · show Steps _ _ _ (T117.setTop (mkF m 96 #[iv p0, iv p1, iv p2, .val (.long q3), .second, iv (2 : Int32), iv (((q3 &&& (65535 : Int64)).toInt32).toUInt32.toUInt16.toUInt32.toInt32), iv (((((q3.toUInt64 >>> ((16 : Int32) &&& 0x3f).toInt64.toUInt64).toInt64) &&& (65535 : Int64)).toInt32).toUInt32.toUInt16.toUInt32.toInt32), iv (((((q3.toUInt64 >>> ((32 : Int32) &&& 0x3f).toInt64.toUInt64).toInt64) &&& (65535 : Int64)).toInt32).toUInt32.toUInt16.toUInt32.toInt32), iv (((((q3.toUInt64 >>> ((48 : Int32) &&& 0x3f).toInt64.toUInt64).toInt64) &&& (65535 : Int64)).toInt32).toUInt32.toUInt16.toUInt32.toInt32), rv sg_89, rv (own_pk ((p0 &&& (2147483647 : Int32)) % (7 : Int32)) w0 w1 w2 w3 w4 w5 w6), rv b107] [(.ref b107)])) _
      refine st129.trans ?_
      refine XS.iloadN X129.here hx rfl (hb hby at_99) rfl ?_
      refine XS.iload X129.here hx rfl (hb hby at_100) rfl ?_
      show Steps _ _ _ (T129.setTop (mkF m 102 #[iv p0, iv p1, iv p2, .val (.long q3), .second, iv (2 : Int32), iv (((q3 &&& (65535 : Int64)).toInt32).toUInt32.toUInt16.toUInt32.toInt32), iv (((((q3.toUInt64 >>> ((16 : Int32) &&& 0x3f).toInt64.toUInt64).toInt64) &&& (65535 : Int64)).toInt32).toUInt32.toUInt16.toUInt32.toInt32), iv (((((q3.toUInt64 >>> ((32 : Int32) &&& 0x3f).toInt64.toUInt64).toInt64) &&& (65535 : Int64)).toInt32).toUInt32.toUInt16.toUInt32.toInt32), iv (((((q3.toUInt64 >>> ((48 : Int32) &&& 0x3f).toInt64.toUInt64).toInt64) &&& (65535 : Int64)).toInt32).toUInt32.toUInt16.toUInt32.toInt32), rv sg_89, rv (own_pk ((p0 &&& (2147483647 : Int32)) % (7 : Int32)) w0 w1 w2 w3 w4 w5 w6), rv b107] [(.int (2 : Int32)), (.int p1), (.int (p1 + (z_89 >>> (cd_89 &&& 31))))])) _
      refine XS.iadd X129.here hx rfl (hb hby at_102) rfl ?_
      refine XS.icmpNo X129.here hx rfl (hb hby at_103) rfl (teq (congrArg (fun q : Int32 => p1 + q) f94)).2 ?_
      refine XS.iconst X129.here hx rfl (hb hby at_106) ?_
      refine XS.goto X129.here hx rfl (pc0 := 107) (pc' := 111) rfl (hb hby at_107) (by decide) (by decide) ?_
      show Steps _ _ _ (T129.setTop (mkF m 111 #[iv p0, iv p1, iv p2, .val (.long q3), .second, iv (2 : Int32), iv (((q3 &&& (65535 : Int64)).toInt32).toUInt32.toUInt16.toUInt32.toInt32), iv (((((q3.toUInt64 >>> ((16 : Int32) &&& 0x3f).toInt64.toUInt64).toInt64) &&& (65535 : Int64)).toInt32).toUInt32.toUInt16.toUInt32.toInt32), iv (((((q3.toUInt64 >>> ((32 : Int32) &&& 0x3f).toInt64.toUInt64).toInt64) &&& (65535 : Int64)).toInt32).toUInt32.toUInt16.toUInt32.toInt32), iv (((((q3.toUInt64 >>> ((48 : Int32) &&& 0x3f).toInt64.toUInt64).toInt64) &&& (65535 : Int64)).toInt32).toUInt32.toUInt16.toUInt32.toInt32), rv sg_89, rv (own_pk ((p0 &&& (2147483647 : Int32)) % (7 : Int32)) w0 w1 w2 w3 w4 w5 w6), rv b107] [(.int (1 : Int32))])) _
      exact retN X129 hx (t := .boolean) Bd.returns (by simp) (hb hby at_111) hr
    · show own_Q0 n0 _ T129.heap _
      rw [e129]
      exact ⟨rfl, N129⟩
  · rw [hi] at pre1
    have pre132 : ∀ t, Steps p.tables e below (s₁.setTop (mkF m 63 #[iv p0, iv p1, iv p2, .val (.long q3), .second, iv (3 : Int32), iv (((q3 &&& (65535 : Int64)).toInt32).toUInt32.toUInt16.toUInt32.toInt32), iv (((((q3.toUInt64 >>> ((16 : Int32) &&& 0x3f).toInt64.toUInt64).toInt64) &&& (65535 : Int64)).toInt32).toUInt32.toUInt16.toUInt32.toInt32), iv (((((q3.toUInt64 >>> ((32 : Int32) &&& 0x3f).toInt64.toUInt64).toInt64) &&& (65535 : Int64)).toInt32).toUInt32.toUInt16.toUInt32.toInt32), iv (((((q3.toUInt64 >>> ((48 : Int32) &&& 0x3f).toInt64.toUInt64).toInt64) &&& (65535 : Int64)).toInt32).toUInt32.toUInt16.toUInt32.toInt32), .unset, .unset, .unset] [(.int (((((q3.toUInt64 >>> ((48 : Int32) &&& 0x3f).toInt64.toUInt64).toInt64) &&& (65535 : Int64)).toInt32).toUInt32.toUInt16.toUInt32.toInt32)), (.int (((((q3.toUInt64 >>> ((32 : Int32) &&& 0x3f).toInt64.toUInt64).toInt64) &&& (65535 : Int64)).toInt32).toUInt32.toUInt16.toUInt32.toInt32)), (.int (((((q3.toUInt64 >>> ((16 : Int32) &&& 0x3f).toInt64.toUInt64).toInt64) &&& (65535 : Int64)).toInt32).toUInt32.toUInt16.toUInt32.toInt32)), (.int (((q3 &&& (65535 : Int64)).toInt32).toUInt32.toUInt16.toUInt32.toInt32)), (.int (3 : Int32))])) t → Steps p.tables e below (s₁.setTop (entryFrame m #[(.int p0), (.int p1), (.int p2), (.long q3)] maxLocals)) t := fun t kt => pre1 t (by
     refine XS.lloadN X0.here hx rfl (hb hby at_8) rfl ?_
     refine X0.ldc2Long hx hown (mvT hZ (own_g hw 1 rfl)) (g := (mkF m 9 #[iv p0, iv p1, iv p2, .val (.long q3), .second, iv (3 : Int32), .unset, .unset, .unset, .unset, .unset, .unset, .unset] [(.long q3)])) rfl (hb hby at_9) _ ?_
     refine XS.land X0.here hx rfl (hb hby at_12) rfl ?_
     refine XS.l2i X0.here hx rfl (hb hby at_13) rfl ?_
     refine XS.i2c X0.here hx rfl (hb hby at_14) rfl ?_
     refine XS.istore X0.here hx rfl (hb hby at_15) rfl (l' := #[iv p0, iv p1, iv p2, .val (.long q3), .second, iv (3 : Int32), iv (((q3 &&& (65535 : Int64)).toInt32).toUInt32.toUInt16.toUInt32.toInt32), .unset, .unset, .unset, .unset, .unset, .unset]) rfl ?_
     refine XS.lloadN X0.here hx rfl (hb hby at_17) rfl ?_
     refine XS.bipush X0.here hx rfl (hb hby at_18) ?_
     refine XS.lushr X0.here hx rfl (hb hby at_20) rfl ?_
     refine X0.ldc2Long hx hown (mvT hZ (own_g hw 1 rfl)) (g := (mkF m 21 #[iv p0, iv p1, iv p2, .val (.long q3), .second, iv (3 : Int32), iv (((q3 &&& (65535 : Int64)).toInt32).toUInt32.toUInt16.toUInt32.toInt32), .unset, .unset, .unset, .unset, .unset, .unset] [(.long ((q3.toUInt64 >>> ((16 : Int32) &&& 0x3f).toInt64.toUInt64).toInt64))])) rfl (hb hby at_21) _ ?_
     refine XS.land X0.here hx rfl (hb hby at_24) rfl ?_
     refine XS.l2i X0.here hx rfl (hb hby at_25) rfl ?_
     refine XS.i2c X0.here hx rfl (hb hby at_26) rfl ?_
     refine XS.istore X0.here hx rfl (hb hby at_27) rfl (l' := #[iv p0, iv p1, iv p2, .val (.long q3), .second, iv (3 : Int32), iv (((q3 &&& (65535 : Int64)).toInt32).toUInt32.toUInt16.toUInt32.toInt32), iv (((((q3.toUInt64 >>> ((16 : Int32) &&& 0x3f).toInt64.toUInt64).toInt64) &&& (65535 : Int64)).toInt32).toUInt32.toUInt16.toUInt32.toInt32), .unset, .unset, .unset, .unset, .unset]) rfl ?_
     refine XS.lloadN X0.here hx rfl (hb hby at_29) rfl ?_
     refine XS.bipush X0.here hx rfl (hb hby at_30) ?_
     refine XS.lushr X0.here hx rfl (hb hby at_32) rfl ?_
     refine X0.ldc2Long hx hown (mvT hZ (own_g hw 1 rfl)) (g := (mkF m 33 #[iv p0, iv p1, iv p2, .val (.long q3), .second, iv (3 : Int32), iv (((q3 &&& (65535 : Int64)).toInt32).toUInt32.toUInt16.toUInt32.toInt32), iv (((((q3.toUInt64 >>> ((16 : Int32) &&& 0x3f).toInt64.toUInt64).toInt64) &&& (65535 : Int64)).toInt32).toUInt32.toUInt16.toUInt32.toInt32), .unset, .unset, .unset, .unset, .unset] [(.long ((q3.toUInt64 >>> ((32 : Int32) &&& 0x3f).toInt64.toUInt64).toInt64))])) rfl (hb hby at_33) _ ?_
     refine XS.land X0.here hx rfl (hb hby at_36) rfl ?_
     refine XS.l2i X0.here hx rfl (hb hby at_37) rfl ?_
     show Steps _ _ _ (s₁.setTop (mkF m 38 #[iv p0, iv p1, iv p2, .val (.long q3), .second, iv (3 : Int32), iv (((q3 &&& (65535 : Int64)).toInt32).toUInt32.toUInt16.toUInt32.toInt32), iv (((((q3.toUInt64 >>> ((16 : Int32) &&& 0x3f).toInt64.toUInt64).toInt64) &&& (65535 : Int64)).toInt32).toUInt32.toUInt16.toUInt32.toInt32), .unset, .unset, .unset, .unset, .unset] [(.int ((((q3.toUInt64 >>> ((32 : Int32) &&& 0x3f).toInt64.toUInt64).toInt64) &&& (65535 : Int64)).toInt32))])) _
     refine XS.i2c X0.here hx rfl (hb hby at_38) rfl ?_
     refine XS.istore X0.here hx rfl (hb hby at_39) rfl (l' := #[iv p0, iv p1, iv p2, .val (.long q3), .second, iv (3 : Int32), iv (((q3 &&& (65535 : Int64)).toInt32).toUInt32.toUInt16.toUInt32.toInt32), iv (((((q3.toUInt64 >>> ((16 : Int32) &&& 0x3f).toInt64.toUInt64).toInt64) &&& (65535 : Int64)).toInt32).toUInt32.toUInt16.toUInt32.toInt32), iv (((((q3.toUInt64 >>> ((32 : Int32) &&& 0x3f).toInt64.toUInt64).toInt64) &&& (65535 : Int64)).toInt32).toUInt32.toUInt16.toUInt32.toInt32), .unset, .unset, .unset, .unset]) rfl ?_
     refine XS.lloadN X0.here hx rfl (hb hby at_41) rfl ?_
     refine XS.bipush X0.here hx rfl (hb hby at_42) ?_
     refine XS.lushr X0.here hx rfl (hb hby at_44) rfl ?_
     refine X0.ldc2Long hx hown (mvT hZ (own_g hw 1 rfl)) (g := (mkF m 45 #[iv p0, iv p1, iv p2, .val (.long q3), .second, iv (3 : Int32), iv (((q3 &&& (65535 : Int64)).toInt32).toUInt32.toUInt16.toUInt32.toInt32), iv (((((q3.toUInt64 >>> ((16 : Int32) &&& 0x3f).toInt64.toUInt64).toInt64) &&& (65535 : Int64)).toInt32).toUInt32.toUInt16.toUInt32.toInt32), iv (((((q3.toUInt64 >>> ((32 : Int32) &&& 0x3f).toInt64.toUInt64).toInt64) &&& (65535 : Int64)).toInt32).toUInt32.toUInt16.toUInt32.toInt32), .unset, .unset, .unset, .unset] [(.long ((q3.toUInt64 >>> ((48 : Int32) &&& 0x3f).toInt64.toUInt64).toInt64))])) rfl (hb hby at_45) _ ?_
     refine XS.land X0.here hx rfl (hb hby at_48) rfl ?_
     refine XS.l2i X0.here hx rfl (hb hby at_49) rfl ?_
     refine XS.i2c X0.here hx rfl (hb hby at_50) rfl ?_
     refine XS.istore X0.here hx rfl (hb hby at_51) rfl (l' := #[iv p0, iv p1, iv p2, .val (.long q3), .second, iv (3 : Int32), iv (((q3 &&& (65535 : Int64)).toInt32).toUInt32.toUInt16.toUInt32.toInt32), iv (((((q3.toUInt64 >>> ((16 : Int32) &&& 0x3f).toInt64.toUInt64).toInt64) &&& (65535 : Int64)).toInt32).toUInt32.toUInt16.toUInt32.toInt32), iv (((((q3.toUInt64 >>> ((32 : Int32) &&& 0x3f).toInt64.toUInt64).toInt64) &&& (65535 : Int64)).toInt32).toUInt32.toUInt16.toUInt32.toInt32), iv (((((q3.toUInt64 >>> ((48 : Int32) &&& 0x3f).toInt64.toUInt64).toInt64) &&& (65535 : Int64)).toInt32).toUInt32.toUInt16.toUInt32.toInt32), .unset, .unset, .unset]) rfl ?_
     refine XS.iload X0.here hx rfl (hb hby at_53) rfl ?_
     refine XS.iload X0.here hx rfl (hb hby at_55) rfl ?_
     refine XS.iload X0.here hx rfl (hb hby at_57) rfl ?_
     refine XS.iload X0.here hx rfl (hb hby at_59) rfl ?_
     refine XS.iload X0.here hx rfl (hb hby at_61) rfl ?_
     exact kt)
    obtain ⟨_, _, ⟨T133, L133, k133, n133⟩, -, X133, ⟨Lc133, hQ133, l133, y133, z133⟩, st133⟩ := Jvm.LawKit.callS X0 hx (y := own_y10) hown (mvT hZ (own_g hw 2 rfl)) (mvT hZ (own_g hw 3 rfl)) (mvT hZ (own_g hw 4 rfl)) (mvT hZ (own_g hw 5 rfl)) (by decide) (backOf (W := 0) (rmMk_3 l Z a0 hw [] (((q3 &&& (65535 : Int64)).toInt32).toUInt32.toUInt16.toUInt32.toInt32) (((((q3.toUInt64 >>> ((16 : Int32) &&& 0x3f).toInt64.toUInt64).toInt64) &&& (65535 : Int64)).toInt32).toUInt32.toUInt16.toUInt32.toInt32) (((((q3.toUInt64 >>> ((32 : Int32) &&& 0x3f).toInt64.toUInt64).toInt64) &&& (65535 : Int64)).toInt32).toUInt32.toUInt16.toUInt32.toInt32) (((((q3.toUInt64 >>> ((48 : Int32) &&& 0x3f).toInt64.toUInt64).toInt64) &&& (65535 : Int64)).toInt32).toUInt32.toUInt16.toUInt32.toInt32) zC h0 n0 Z0 P_S_StringUTF16__assertionsDisabled P_S_StringUTF16_HI_BYTE_SHIFT P_S_StringUTF16_LO_BYTE_SHIFT P_S_String_COMPACT_STRINGS hz) hZ (own_g hw 5 rfl) (own_g hw 4 rfl) (by decide) (by decide)) (g := (mkF m 63 #[iv p0, iv p1, iv p2, .val (.long q3), .second, iv (3 : Int32), iv (((q3 &&& (65535 : Int64)).toInt32).toUInt32.toUInt16.toUInt32.toInt32), iv (((((q3.toUInt64 >>> ((16 : Int32) &&& 0x3f).toInt64.toUInt64).toInt64) &&& (65535 : Int64)).toInt32).toUInt32.toUInt16.toUInt32.toInt32), iv (((((q3.toUInt64 >>> ((32 : Int32) &&& 0x3f).toInt64.toUInt64).toInt64) &&& (65535 : Int64)).toInt32).toUInt32.toUInt16.toUInt32.toInt32), iv (((((q3.toUInt64 >>> ((48 : Int32) &&& 0x3f).toInt64.toUInt64).toInt64) &&& (65535 : Int64)).toInt32).toUInt32.toUInt16.toUInt32.toInt32), .unset, .unset, .unset] [(.int (((((q3.toUInt64 >>> ((48 : Int32) &&& 0x3f).toInt64.toUInt64).toInt64) &&& (65535 : Int64)).toInt32).toUInt32.toUInt16.toUInt32.toInt32)), (.int (((((q3.toUInt64 >>> ((32 : Int32) &&& 0x3f).toInt64.toUInt64).toInt64) &&& (65535 : Int64)).toInt32).toUInt32.toUInt16.toUInt32.toInt32)), (.int (((((q3.toUInt64 >>> ((16 : Int32) &&& 0x3f).toInt64.toUInt64).toInt64) &&& (65535 : Int64)).toInt32).toUInt32.toUInt16.toUInt32.toInt32)), (.int (((q3 &&& (65535 : Int64)).toInt32).toUInt32.toUInt16.toUInt32.toInt32)), (.int (3 : Int32))])) rfl (by rw [hml]; rfl) (argsL := [(.int (3 : Int32)), (.int (((q3 &&& (65535 : Int64)).toInt32).toUInt32.toUInt16.toUInt32.toInt32)), (.int (((((q3.toUInt64 >>> ((16 : Int32) &&& 0x3f).toInt64.toUInt64).toInt64) &&& (65535 : Int64)).toInt32).toUInt32.toUInt16.toUInt32.toInt32)), (.int (((((q3.toUInt64 >>> ((32 : Int32) &&& 0x3f).toInt64.toUInt64).toInt64) &&& (65535 : Int64)).toInt32).toUInt32.toUInt16.toUInt32.toInt32)), (.int (((((q3.toUInt64 >>> ((48 : Int32) &&& 0x3f).toInt64.toUInt64).toInt64) &&& (65535 : Int64)).toInt32).toUInt32.toUInt16.toUInt32.toInt32))]) (rest := []) (lenOf pd__ICCCC_Ljava_lang_String_ rfl) rfl (by show 2 * 0 + _ ≤ _; exact Nat.le_of_eq rfl) (hb hby at_63) (fun _ _ => ⟨rfl, e0, (by decide : 0 + 4 ≤ _), (by decide : 0 + 16 ≤ _)⟩)
    dsimp only [Pt.U, Pt.locs, Pt.cells, Pt.slots] at X133 l133 y133 z133 st133 hQ133
    subst l133 y133 z133
    obtain ⟨sg_133, t_133, kt_133, z_133, vs_133, cd_133, rfl, N133q, K133, sx133_0, sx133_1, px133_0, f134, f135, f136, f137, f138, f139⟩ := hQ133
    have osg_133 : n0 ≤ sg_133 := Nat.le_trans Z0 sx133_0
    have zsg_133 : h0.size ≤ sg_133 := Nat.le_trans (Keep.refl h0 []).1 sx133_0
    have ot_133 : n0 ≤ t_133 := Nat.le_trans Z0 sx133_1
    have zt_133 : h0.size ≤ t_133 := Nat.le_trans (Keep.refl h0 []).1 sx133_1
    have KK133 : Keep h0 T133.heap [] := Keep.trans (Keep.refl h0 []) K133 all0
    have CH140 : CHr Z own_EL s.vm h0 s.vm T133.heap := CH0.trans (CHr.keep K133 sf0 CH0.1)
    have N133 := Fr.app N0 N133q
    have pre141 : ∀ t, Steps p.tables e below (T133.setTop (mkF m 75 #[iv p0, iv p1, iv p2, .val (.long q3), .second, iv (3 : Int32), iv (((q3 &&& (65535 : Int64)).toInt32).toUInt32.toUInt16.toUInt32.toInt32), iv (((((q3.toUInt64 >>> ((16 : Int32) &&& 0x3f).toInt64.toUInt64).toInt64) &&& (65535 : Int64)).toInt32).toUInt32.toUInt16.toUInt32.toInt32), iv (((((q3.toUInt64 >>> ((32 : Int32) &&& 0x3f).toInt64.toUInt64).toInt64) &&& (65535 : Int64)).toInt32).toUInt32.toUInt16.toUInt32.toInt32), iv (((((q3.toUInt64 >>> ((48 : Int32) &&& 0x3f).toInt64.toUInt64).toInt64) &&& (65535 : Int64)).toInt32).toUInt32.toUInt16.toUInt32.toInt32), rv sg_133, .unset, .unset] [(.int ((p0 &&& (2147483647 : Int32)) % (7 : Int32)))])) t → Steps p.tables e below (s₁.setTop (entryFrame m #[(.int p0), (.int p1), (.int p2), (.long q3)] maxLocals)) t := fun t kt => pre132 t (by
     show Steps _ _ _ (s₁.setTop (mkF m 63 #[iv p0, iv p1, iv p2, .val (.long q3), .second, iv (3 : Int32), iv (((q3 &&& (65535 : Int64)).toInt32).toUInt32.toUInt16.toUInt32.toInt32), iv (((((q3.toUInt64 >>> ((16 : Int32) &&& 0x3f).toInt64.toUInt64).toInt64) &&& (65535 : Int64)).toInt32).toUInt32.toUInt16.toUInt32.toInt32), iv (((((q3.toUInt64 >>> ((32 : Int32) &&& 0x3f).toInt64.toUInt64).toInt64) &&& (65535 : Int64)).toInt32).toUInt32.toUInt16.toUInt32.toInt32), iv (((((q3.toUInt64 >>> ((48 : Int32) &&& 0x3f).toInt64.toUInt64).toInt64) &&& (65535 : Int64)).toInt32).toUInt32.toUInt16.toUInt32.toInt32), .unset, .unset, .unset] [(.int (((((q3.toUInt64 >>> ((48 : Int32) &&& 0x3f).toInt64.toUInt64).toInt64) &&& (65535 : Int64)).toInt32).toUInt32.toUInt16.toUInt32.toInt32)), (.int (((((q3.toUInt64 >>> ((32 : Int32) &&& 0x3f).toInt64.toUInt64).toInt64) &&& (65535 : Int64)).toInt32).toUInt32.toUInt16.toUInt32.toInt32)), (.int (((((q3.toUInt64 >>> ((16 : Int32) &&& 0x3f).toInt64.toUInt64).toInt64) &&& (65535 : Int64)).toInt32).toUInt32.toUInt16.toUInt32.toInt32)), (.int (((q3 &&& (65535 : Int64)).toInt32).toUInt32.toUInt16.toUInt32.toInt32)), (.int (3 : Int32))])) _
     refine st133 _ ?_
     refine XS.astore X133.here hx rfl (hb hby at_66) rfl rfl (l' := #[iv p0, iv p1, iv p2, .val (.long q3), .second, iv (3 : Int32), iv (((q3 &&& (65535 : Int64)).toInt32).toUInt32.toUInt16.toUInt32.toInt32), iv (((((q3.toUInt64 >>> ((16 : Int32) &&& 0x3f).toInt64.toUInt64).toInt64) &&& (65535 : Int64)).toInt32).toUInt32.toUInt16.toUInt32.toInt32), iv (((((q3.toUInt64 >>> ((32 : Int32) &&& 0x3f).toInt64.toUInt64).toInt64) &&& (65535 : Int64)).toInt32).toUInt32.toUInt16.toUInt32.toInt32), iv (((((q3.toUInt64 >>> ((48 : Int32) &&& 0x3f).toInt64.toUInt64).toInt64) &&& (65535 : Int64)).toInt32).toUInt32.toUInt16.toUInt32.toInt32), rv sg_133, .unset, .unset]) rfl ?_
     refine XS.iloadN X133.here hx rfl (hb hby at_68) rfl ?_
     refine X133.ldcInt hx hown (mvT hZ (own_g hw 0 rfl)) (g := (mkF m 69 #[iv p0, iv p1, iv p2, .val (.long q3), .second, iv (3 : Int32), iv (((q3 &&& (65535 : Int64)).toInt32).toUInt32.toUInt16.toUInt32.toInt32), iv (((((q3.toUInt64 >>> ((16 : Int32) &&& 0x3f).toInt64.toUInt64).toInt64) &&& (65535 : Int64)).toInt32).toUInt32.toUInt16.toUInt32.toInt32), iv (((((q3.toUInt64 >>> ((32 : Int32) &&& 0x3f).toInt64.toUInt64).toInt64) &&& (65535 : Int64)).toInt32).toUInt32.toUInt16.toUInt32.toInt32), iv (((((q3.toUInt64 >>> ((48 : Int32) &&& 0x3f).toInt64.toUInt64).toInt64) &&& (65535 : Int64)).toInt32).toUInt32.toUInt16.toUInt32.toInt32), rv sg_133, .unset, .unset] [(.int p0)])) rfl (hb hby at_69) _ ?_
     refine XS.iand X133.here hx rfl (hb hby at_71) rfl ?_
     refine XS.bipush X133.here hx rfl (hb hby at_72) ?_
     refine iremM X133 hx rfl (hb hby at_74) rfl (by decide : ¬ ((7 : Int32) = (0 : Int32))) ?_
     exact kt)
    have f142 : Sta Z T133.heap "com/example/apq/apq/jpql/Token$Kind" "WORD" "Lcom/example/apq/apq/jpql/Token$Kind;" (.ref w0) := (own_staKeep P_S_Token_Kind_WORD K133 ns0)
    have f143 : Sta Z T133.heap "com/example/apq/apq/jpql/Token$Kind" "STRING" "Lcom/example/apq/apq/jpql/Token$Kind;" (.ref w1) := (own_staKeep P_S_Token_Kind_STRING K133 ns0)
    have f144 : Sta Z T133.heap "com/example/apq/apq/jpql/Token$Kind" "NUMBER" "Lcom/example/apq/apq/jpql/Token$Kind;" (.ref w2) := (own_staKeep P_S_Token_Kind_NUMBER K133 ns0)
    have f145 : Sta Z T133.heap "com/example/apq/apq/jpql/Token$Kind" "DATETIME" "Lcom/example/apq/apq/jpql/Token$Kind;" (.ref w3) := (own_staKeep P_S_Token_Kind_DATETIME K133 ns0)
    have f146 : Sta Z T133.heap "com/example/apq/apq/jpql/Token$Kind" "PARAMETER" "Lcom/example/apq/apq/jpql/Token$Kind;" (.ref w4) := (own_staKeep P_S_Token_Kind_PARAMETER K133 ns0)
    have f147 : Sta Z T133.heap "com/example/apq/apq/jpql/Token$Kind" "SYMBOL" "Lcom/example/apq/apq/jpql/Token$Kind;" (.ref w5) := (own_staKeep P_S_Token_Kind_SYMBOL K133 ns0)
    have f148 : Sta Z T133.heap "com/example/apq/apq/jpql/Token$Kind" "END" "Lcom/example/apq/apq/jpql/Token$Kind;" (.ref w6) := (own_staKeep P_S_Token_Kind_END K133 ns0)
    have f149 : n0 ≤ T133.heap.size := (Nat.le_trans Z0 K133.1)
    obtain ⟨_, _, ⟨T150, L150, k150, n150⟩, -, X150, ⟨Lc150, hQ150, l150, y150, z150⟩, st150⟩ := Jvm.LawKit.callS X133 hx (y := own_y11) hown (mvT hZ (own_g hw 55 rfl)) (mvT hZ (own_g hw 56 rfl)) (mvT hZ (own_g hw 4 rfl)) (mvT hZ (own_g hw 57 rfl)) (by decide) (backOf (W := 0) (rmPK l Z a0 hw [] ((p0 &&& (2147483647 : Int32)) % (7 : Int32)) w0 w1 w2 w3 w4 w5 w6 T133.heap n0 f149 f142 f143 f144 f145 f146 f147 f148) hZ (own_g hw 57 rfl) (own_g hw 4 rfl) (by decide) (by decide)) (g := (mkF m 75 #[iv p0, iv p1, iv p2, .val (.long q3), .second, iv (3 : Int32), iv (((q3 &&& (65535 : Int64)).toInt32).toUInt32.toUInt16.toUInt32.toInt32), iv (((((q3.toUInt64 >>> ((16 : Int32) &&& 0x3f).toInt64.toUInt64).toInt64) &&& (65535 : Int64)).toInt32).toUInt32.toUInt16.toUInt32.toInt32), iv (((((q3.toUInt64 >>> ((32 : Int32) &&& 0x3f).toInt64.toUInt64).toInt64) &&& (65535 : Int64)).toInt32).toUInt32.toUInt16.toUInt32.toInt32), iv (((((q3.toUInt64 >>> ((48 : Int32) &&& 0x3f).toInt64.toUInt64).toInt64) &&& (65535 : Int64)).toInt32).toUInt32.toUInt16.toUInt32.toInt32), rv sg_133, .unset, .unset] [(.int ((p0 &&& (2147483647 : Int32)) % (7 : Int32)))])) rfl (by rw [hml]; rfl) (argsL := [(.int ((p0 &&& (2147483647 : Int32)) % (7 : Int32)))]) (rest := []) (lenOf pd__I_Lcom_example_apq_apq_jpql_Token_Kind_ rfl) rfl (by show 2 * 0 + _ ≤ _; exact Nat.le_of_eq rfl) (hb hby at_75) (fun _ _ => ⟨rfl, rfl, (by decide : 4 + 0 ≤ _), (by decide : 16 + 0 ≤ _)⟩)
    dsimp only [Pt.U, Pt.locs, Pt.cells, Pt.slots] at X150 l150 y150 z150 st150 hQ150
    subst l150 y150 z150
    obtain ⟨rfl, N150q, e150⟩ := hQ150
    have N150 := Fr.app N133 N150q
    obtain ⟨T151, h151, X151, e151, E151, A151, D151, U151, st151⟩ := newO X150 hx hZ hown (own_g hw 61 rfl) (own_g hw 62 rfl) (own_g hw 63 rfl) e150 (g := (mkF m 80 #[iv p0, iv p1, iv p2, .val (.long q3), .second, iv (3 : Int32), iv (((q3 &&& (65535 : Int64)).toInt32).toUInt32.toUInt16.toUInt32.toInt32), iv (((((q3.toUInt64 >>> ((16 : Int32) &&& 0x3f).toInt64.toUInt64).toInt64) &&& (65535 : Int64)).toInt32).toUInt32.toUInt16.toUInt32.toInt32), iv (((((q3.toUInt64 >>> ((32 : Int32) &&& 0x3f).toInt64.toUInt64).toInt64) &&& (65535 : Int64)).toInt32).toUInt32.toUInt16.toUInt32.toInt32), iv (((((q3.toUInt64 >>> ((48 : Int32) &&& 0x3f).toInt64.toUInt64).toInt64) &&& (65535 : Int64)).toInt32).toUInt32.toUInt16.toUInt32.toInt32), rv sg_133, rv (own_pk ((p0 &&& (2147483647 : Int32)) % (7 : Int32)) w0 w1 w2 w3 w4 w5 w6), .unset] [])) rfl (hb hby at_80) (by decide) (by decide)
    obtain ⟨b151, g151⟩ : ∃ z, z = T133.heap.size := ⟨_, rfl⟩
    rw [← g151] at A151 D151 U151 st151
    have ne152 : sg_133 ≠ b151 := Nat.ne_of_lt (Nat.lt_of_lt_of_le f134.lt (Nat.le_of_eq g151.symm))
    have ne153 : t_133 ≠ b151 := Nat.ne_of_lt (Nat.lt_of_lt_of_le f137.lt (Nat.le_of_eq g151.symm))
    have o151 : n0 ≤ b151 := Nat.le_trans f149 (Nat.le_of_eq g151.symm)
    have z151 : h0.size ≤ b151 := Nat.le_trans KK133.1 (Nat.le_of_eq g151.symm)
    have CH154 : CHr Z own_EL s.vm h0 s.vm h151 := CH140.trans (CHr.ext E151 CH140.1)
    have Yb155 : Safe Z own_EL s.vm h151 b151 := Safe.ext E151 CH140.1 (Safe.new (Nat.le_of_eq g151.symm))
    have K151 : Keep h0 h151 [] := KK133.ext E151
    have f156 : Fld Z h151 b151 "com/example/apq/apq/jpql/Token" "kind" "Lcom/example/apq/apq/jpql/Token$Kind;" .null := D151 (Or.inr (own_g hw 74 rfl)) (ty := (.object "com/example/apq/apq/jpql/Token$Kind")) (by decide)
    have f157 : Fld Z h151 b151 "com/example/apq/apq/jpql/Token" "text" "Ljava/lang/String;" .null := D151 (Or.inr (own_g hw 76 rfl)) (ty := (.object "java/lang/String")) (by decide)
    have f158 : Fld Z h151 b151 "com/example/apq/apq/jpql/Token" "offset" "I" (.int (0 : Int32)) := D151 (Or.inr (own_g hw 78 rfl)) (ty := .int) (by decide)
    have pre159 : ∀ t, Steps p.tables e below (T151.setTop (mkF m 89 #[iv p0, iv p1, iv p2, .val (.long q3), .second, iv (3 : Int32), iv (((q3 &&& (65535 : Int64)).toInt32).toUInt32.toUInt16.toUInt32.toInt32), iv (((((q3.toUInt64 >>> ((16 : Int32) &&& 0x3f).toInt64.toUInt64).toInt64) &&& (65535 : Int64)).toInt32).toUInt32.toUInt16.toUInt32.toInt32), iv (((((q3.toUInt64 >>> ((32 : Int32) &&& 0x3f).toInt64.toUInt64).toInt64) &&& (65535 : Int64)).toInt32).toUInt32.toUInt16.toUInt32.toInt32), iv (((((q3.toUInt64 >>> ((48 : Int32) &&& 0x3f).toInt64.toUInt64).toInt64) &&& (65535 : Int64)).toInt32).toUInt32.toUInt16.toUInt32.toInt32), rv sg_133, rv (own_pk ((p0 &&& (2147483647 : Int32)) % (7 : Int32)) w0 w1 w2 w3 w4 w5 w6), .unset] [(.int p1), (.ref sg_133), (.ref (own_pk ((p0 &&& (2147483647 : Int32)) % (7 : Int32)) w0 w1 w2 w3 w4 w5 w6)), (.ref b151), (.ref b151)])) t → Steps p.tables e below (s₁.setTop (entryFrame m #[(.int p0), (.int p1), (.int p2), (.long q3)] maxLocals)) t := fun t kt => pre141 t (by
     show Steps _ _ _ (T133.setTop (mkF m 75 #[iv p0, iv p1, iv p2, .val (.long q3), .second, iv (3 : Int32), iv (((q3 &&& (65535 : Int64)).toInt32).toUInt32.toUInt16.toUInt32.toInt32), iv (((((q3.toUInt64 >>> ((16 : Int32) &&& 0x3f).toInt64.toUInt64).toInt64) &&& (65535 : Int64)).toInt32).toUInt32.toUInt16.toUInt32.toInt32), iv (((((q3.toUInt64 >>> ((32 : Int32) &&& 0x3f).toInt64.toUInt64).toInt64) &&& (65535 : Int64)).toInt32).toUInt32.toUInt16.toUInt32.toInt32), iv (((((q3.toUInt64 >>> ((48 : Int32) &&& 0x3f).toInt64.toUInt64).toInt64) &&& (65535 : Int64)).toInt32).toUInt32.toUInt16.toUInt32.toInt32), rv sg_133, .unset, .unset] [(.int ((p0 &&& (2147483647 : Int32)) % (7 : Int32)))])) _
     refine st150 _ ?_
     refine XS.astore X150.here hx rfl (hb hby at_78) rfl rfl (l' := #[iv p0, iv p1, iv p2, .val (.long q3), .second, iv (3 : Int32), iv (((q3 &&& (65535 : Int64)).toInt32).toUInt32.toUInt16.toUInt32.toInt32), iv (((((q3.toUInt64 >>> ((16 : Int32) &&& 0x3f).toInt64.toUInt64).toInt64) &&& (65535 : Int64)).toInt32).toUInt32.toUInt16.toUInt32.toInt32), iv (((((q3.toUInt64 >>> ((32 : Int32) &&& 0x3f).toInt64.toUInt64).toInt64) &&& (65535 : Int64)).toInt32).toUInt32.toUInt16.toUInt32.toInt32), iv (((((q3.toUInt64 >>> ((48 : Int32) &&& 0x3f).toInt64.toUInt64).toInt64) &&& (65535 : Int64)).toInt32).toUInt32.toUInt16.toUInt32.toInt32), rv sg_133, rv (own_pk ((p0 &&& (2147483647 : Int32)) % (7 : Int32)) w0 w1 w2 w3 w4 w5 w6), .unset]) rfl ?_
     refine st151 _ ?_
     refine XS.dup X151.here hx rfl (hb hby at_83) rfl rfl ?_
     show Steps _ _ _ (T151.setTop (mkF m 84 #[iv p0, iv p1, iv p2, .val (.long q3), .second, iv (3 : Int32), iv (((q3 &&& (65535 : Int64)).toInt32).toUInt32.toUInt16.toUInt32.toInt32), iv (((((q3.toUInt64 >>> ((16 : Int32) &&& 0x3f).toInt64.toUInt64).toInt64) &&& (65535 : Int64)).toInt32).toUInt32.toUInt16.toUInt32.toInt32), iv (((((q3.toUInt64 >>> ((32 : Int32) &&& 0x3f).toInt64.toUInt64).toInt64) &&& (65535 : Int64)).toInt32).toUInt32.toUInt16.toUInt32.toInt32), iv (((((q3.toUInt64 >>> ((48 : Int32) &&& 0x3f).toInt64.toUInt64).toInt64) &&& (65535 : Int64)).toInt32).toUInt32.toUInt16.toUInt32.toInt32), rv sg_133, rv (own_pk ((p0 &&& (2147483647 : Int32)) % (7 : Int32)) w0 w1 w2 w3 w4 w5 w6), .unset] [(.ref b151), (.ref b151)])) _
     refine XS.aload X151.here hx rfl (hb hby at_84) rfl rfl ?_
     refine XS.aload X151.here hx rfl (hb hby at_86) rfl rfl ?_
     refine XS.iloadN X151.here hx rfl (hb hby at_88) rfl ?_
     exact kt)
    have f160 : n0 ≤ h151.size := (Nat.le_trans f149 E151.1)
    obtain ⟨_, _, ⟨T161, L161, k161, n161⟩, -, X161, ⟨Lc161, hQ161, l161, y161, z161⟩, st161⟩ := X151.specialBack hx (y := own_y13) rfl hown (mvT hZ (own_g hw 64 rfl)) (mvT hZ (own_g hw 65 rfl)) (mvT hZ (own_g hw 66 rfl)) (by decide) (backOf (W := 1) (rmTI l Z a0 hw [] b151 (own_pk ((p0 &&& (2147483647 : Int32)) % (7 : Int32)) w0 w1 w2 w3 w4 w5 w6) sg_133 p1 h151 n0 f160 A151 f156 f157 f158 o151) hZ (own_g hw 66 rfl) (own_g hw 63 rfl) (by decide) (by decide)) (g := (mkF m 89 #[iv p0, iv p1, iv p2, .val (.long q3), .second, iv (3 : Int32), iv (((q3 &&& (65535 : Int64)).toInt32).toUInt32.toUInt16.toUInt32.toInt32), iv (((((q3.toUInt64 >>> ((16 : Int32) &&& 0x3f).toInt64.toUInt64).toInt64) &&& (65535 : Int64)).toInt32).toUInt32.toUInt16.toUInt32.toInt32), iv (((((q3.toUInt64 >>> ((32 : Int32) &&& 0x3f).toInt64.toUInt64).toInt64) &&& (65535 : Int64)).toInt32).toUInt32.toUInt16.toUInt32.toInt32), iv (((((q3.toUInt64 >>> ((48 : Int32) &&& 0x3f).toInt64.toUInt64).toInt64) &&& (65535 : Int64)).toInt32).toUInt32.toUInt16.toUInt32.toInt32), rv sg_133, rv (own_pk ((p0 &&& (2147483647 : Int32)) % (7 : Int32)) w0 w1 w2 w3 w4 w5 w6), .unset] [(.int p1), (.ref sg_133), (.ref (own_pk ((p0 &&& (2147483647 : Int32)) % (7 : Int32)) w0 w1 w2 w3 w4 w5 w6)), (.ref b151), (.ref b151)])) rfl (by rw [hml]; rfl) (Steps.refl _) (a := b151) (argsL := [(.ref (own_pk ((p0 &&& (2147483647 : Int32)) % (7 : Int32)) w0 w1 w2 w3 w4 w5 w6)), (.ref sg_133), (.int p1)]) (rest := [(.ref b151)]) (lenOf pd__Lcom_example_apq_apq_jpql_Token_Kind_Ljava_lang_String_I_V rfl) rfl (by show 2 * 0 + _ ≤ _; exact Nat.le_of_eq rfl) (hb hby at_89) (fun _ _ => ⟨rfl, e151, (by decide : 5 + 0 ≤ _), (by decide : 19 + 0 ≤ _)⟩)
    dsimp only [Pt.U, Pt.locs, Pt.cells, Pt.slots] at X161 l161 y161 z161 st161 hQ161
    subst l161 y161 z161
    obtain ⟨rfl, N161q, K161, f162, f163, f164⟩ := hQ161
    have KK161 : Keep h0 T161.heap [] := Keep.trans K151 K161 (allS (Or.inr z151) all0)
    have CH165 : CHr Z own_EL s.vm h0 s.vm T161.heap := CH154.trans (CHr.keep K161 (sfS Yb155 sf0) CH154.1)
    have N161 := Fr.app N150 N161q
    have pre166 : ∀ t, Steps p.tables e below (T161.setTop (mkF m 96 #[iv p0, iv p1, iv p2, .val (.long q3), .second, iv (3 : Int32), iv (((q3 &&& (65535 : Int64)).toInt32).toUInt32.toUInt16.toUInt32.toInt32), iv (((((q3.toUInt64 >>> ((16 : Int32) &&& 0x3f).toInt64.toUInt64).toInt64) &&& (65535 : Int64)).toInt32).toUInt32.toUInt16.toUInt32.toInt32), iv (((((q3.toUInt64 >>> ((32 : Int32) &&& 0x3f).toInt64.toUInt64).toInt64) &&& (65535 : Int64)).toInt32).toUInt32.toUInt16.toUInt32.toInt32), iv (((((q3.toUInt64 >>> ((48 : Int32) &&& 0x3f).toInt64.toUInt64).toInt64) &&& (65535 : Int64)).toInt32).toUInt32.toUInt16.toUInt32.toInt32), rv sg_133, rv (own_pk ((p0 &&& (2147483647 : Int32)) % (7 : Int32)) w0 w1 w2 w3 w4 w5 w6), rv b151] [(.ref b151)])) t → Steps p.tables e below (s₁.setTop (entryFrame m #[(.int p0), (.int p1), (.int p2), (.long q3)] maxLocals)) t := fun t kt => pre159 t (by
     show Steps _ _ _ (T151.setTop (mkF m 89 #[iv p0, iv p1, iv p2, .val (.long q3), .second, iv (3 : Int32), iv (((q3 &&& (65535 : Int64)).toInt32).toUInt32.toUInt16.toUInt32.toInt32), iv (((((q3.toUInt64 >>> ((16 : Int32) &&& 0x3f).toInt64.toUInt64).toInt64) &&& (65535 : Int64)).toInt32).toUInt32.toUInt16.toUInt32.toInt32), iv (((((q3.toUInt64 >>> ((32 : Int32) &&& 0x3f).toInt64.toUInt64).toInt64) &&& (65535 : Int64)).toInt32).toUInt32.toUInt16.toUInt32.toInt32), iv (((((q3.toUInt64 >>> ((48 : Int32) &&& 0x3f).toInt64.toUInt64).toInt64) &&& (65535 : Int64)).toInt32).toUInt32.toUInt16.toUInt32.toInt32), rv sg_133, rv (own_pk ((p0 &&& (2147483647 : Int32)) % (7 : Int32)) w0 w1 w2 w3 w4 w5 w6), .unset] [(.int p1), (.ref sg_133), (.ref (own_pk ((p0 &&& (2147483647 : Int32)) % (7 : Int32)) w0 w1 w2 w3 w4 w5 w6)), (.ref b151), (.ref b151)])) _
     refine st161.trans ?_
     refine XS.astore X161.here hx rfl (hb hby at_92) rfl rfl (l' := #[iv p0, iv p1, iv p2, .val (.long q3), .second, iv (3 : Int32), iv (((q3 &&& (65535 : Int64)).toInt32).toUInt32.toUInt16.toUInt32.toInt32), iv (((((q3.toUInt64 >>> ((16 : Int32) &&& 0x3f).toInt64.toUInt64).toInt64) &&& (65535 : Int64)).toInt32).toUInt32.toUInt16.toUInt32.toInt32), iv (((((q3.toUInt64 >>> ((32 : Int32) &&& 0x3f).toInt64.toUInt64).toInt64) &&& (65535 : Int64)).toInt32).toUInt32.toUInt16.toUInt32.toInt32), iv (((((q3.toUInt64 >>> ((48 : Int32) &&& 0x3f).toInt64.toUInt64).toInt64) &&& (65535 : Int64)).toInt32).toUInt32.toUInt16.toUInt32.toInt32), rv sg_133, rv (own_pk ((p0 &&& (2147483647 : Int32)) % (7 : Int32)) w0 w1 w2 w3 w4 w5 w6), rv b151]) rfl ?_
     refine XS.aload X161.here hx rfl (hb hby at_94) rfl rfl ?_
     exact kt)
    have f167 : Exa Z T161.heap sg_133 "java/lang/String" := ((f134.ext E151).keep K161)
    have f168 : Fld Z T161.heap sg_133 "java/lang/String" "value" "[B" (.ref t_133) := ((f135.ext E151).keep K161 (ninS ne152 nin0))
    have f169 : Fld Z T161.heap sg_133 "java/lang/String" "coder" "B" (.int cd_133) := ((f136.ext E151).keep K161 (ninS ne152 nin0))
    have f170 : Arv Z T161.heap t_133 kt_133 .byte z_133 vs_133 (.int 0) := ((f137.ext E151).keep K161 (ninS ne153 nin0))
    have f171 : Sta Z T161.heap "java/lang/String" "COMPACT_STRINGS" "Z" (.int zC) := (own_staKeep ((own_staKeep P_S_String_COMPACT_STRINGS K133 ns0).ext E151) K161 (nsS A151.nostat ns0))
    have f172 : n0 ≤ T161.heap.size := (Nat.le_trans f160 K161.1)
    obtain ⟨cq174, kq174, q174a, q174b, q174c⟩ := isOf hZ rfl f162
    obtain ⟨_, _, ⟨T173, L173, k173, n173⟩, -, X173, ⟨Lc173, hQ173, l173, y173, z173⟩, st173⟩ := X161.virtualBack hx (y := own_y16) (z := own_y16) hown (mvT hZ (own_g hw 79 rfl)) (mvT hZ (own_g hw 80 rfl)) (notFace_of_selects (args := #[]) (mvT hZ (own_g hw 82 rfl))) (mvT hZ (own_g hw 82 rfl)) (mvT hZ (own_g hw 81 rfl)) (by decide) (backOf (W := 0) (rmEn l Z a0 hw [] b151 p1 sg_133 t_133 kt_133 z_133 vs_133 cd_133 zC T161.heap n0 f172 f164 f163 f167 f168 f169 f170 f171 hz f139) hZ (own_g hw 83 rfl) (own_g hw 63 rfl) (by decide) (by decide)) q174a q174c (g := (mkF m 96 #[iv p0, iv p1, iv p2, .val (.long q3), .second, iv (3 : Int32), iv (((q3 &&& (65535 : Int64)).toInt32).toUInt32.toUInt16.toUInt32.toInt32), iv (((((q3.toUInt64 >>> ((16 : Int32) &&& 0x3f).toInt64.toUInt64).toInt64) &&& (65535 : Int64)).toInt32).toUInt32.toUInt16.toUInt32.toInt32), iv (((((q3.toUInt64 >>> ((32 : Int32) &&& 0x3f).toInt64.toUInt64).toInt64) &&& (65535 : Int64)).toInt32).toUInt32.toUInt16.toUInt32.toInt32), iv (((((q3.toUInt64 >>> ((48 : Int32) &&& 0x3f).toInt64.toUInt64).toInt64) &&& (65535 : Int64)).toInt32).toUInt32.toUInt16.toUInt32.toInt32), rv sg_133, rv (own_pk ((p0 &&& (2147483647 : Int32)) % (7 : Int32)) w0 w1 w2 w3 w4 w5 w6), rv b151] [(.ref b151)])) rfl (by rw [hml]; rfl) (Steps.refl _) (argsL := []) (rest := []) (lenOf pd___I rfl) rfl (by show 2 * 0 + _ ≤ _; exact Nat.le_of_eq rfl) (hb hby at_96) (fun _ _ => ⟨rfl, rfl, (by decide : 5 + 0 ≤ _), (by decide : 19 + 0 ≤ _)⟩)
    dsimp only [Pt.U, Pt.locs, Pt.cells, Pt.slots] at X173 l173 y173 z173 st173 hQ173
    subst l173 y173 z173
    obtain ⟨rfl, N173q, e173⟩ := hQ173
    have N173 := Fr.app N161 N173q
    obtain ⟨fs, hr, hrun, hended, hW, hsame⟩ := X173.leave (v := some (.int (1 : Int32))) (fun h => by rw [Bd.returns] at h; cases h)
    have f175 : h0.size ≤ T161.heap.size := (Nat.le_trans (Nat.le_trans (Nat.le_trans (Nat.le_refl h0.size) K133.1) E151.1) K161.1)
    have qE := hS0.ended (c := room_1.cells) (k := room_1.slots) hW (show _ ≤ T173.heap.size from (by rw [e173]; exact f175)) (hsame.mono (by decide) (by decide))
    refine ⟨_, _, pre166 _ ?_, hrun, hended, _, _, rfl, ?_, ⟨_, rfl⟩, qE.1, qE.2.1, qE.2.2⟩
    · show Steps _ _ _ (T161.setTop (mkF m 96 #[iv p0, iv p1, iv p2, .val (.long q3), .second, iv (3 : Int32), iv (((q3 &&& (65535 : Int64)).toInt32).toUInt32.toUInt16.toUInt32.toInt32), iv (((((q3.toUInt64 >>> ((16 : Int32) &&& 0x3f).toInt64.toUInt64).toInt64) &&& (65535 : Int64)).toInt32).toUInt32.toUInt16.toUInt32.toInt32), iv (((((q3.toUInt64 >>> ((32 : Int32) &&& 0x3f).toInt64.toUInt64).toInt64) &&& (65535 : Int64)).toInt32).toUInt32.toUInt16.toUInt32.toInt32), iv (((((q3.toUInt64 >>> ((48 : Int32) &&& 0x3f).toInt64.toUInt64).toInt64) &&& (65535 : Int64)).toInt32).toUInt32.toUInt16.toUInt32.toInt32), rv sg_133, rv (own_pk ((p0 &&& (2147483647 : Int32)) % (7 : Int32)) w0 w1 w2 w3 w4 w5 w6), rv b151] [(.ref b151)])) _
      refine st173.trans ?_
      refine XS.iloadN X173.here hx rfl (hb hby at_99) rfl ?_
      refine XS.iload X173.here hx rfl (hb hby at_100) rfl ?_
      refine XS.iadd X173.here hx rfl (hb hby at_102) rfl ?_
      refine XS.icmpNo X173.here hx rfl (hb hby at_103) rfl (teq (congrArg (fun q : Int32 => p1 + q) f138)).2 ?_
      refine XS.iconst X173.here hx rfl (hb hby at_106) ?_
      refine XS.goto X173.here hx rfl (pc0 := 107) (pc' := 111) rfl (hb hby at_107) (by decide) (by decide) ?_
      show Steps _ _ _ (T173.setTop (mkF m 111 #[iv p0, iv p1, iv p2, .val (.long q3), .second, iv (3 : Int32), iv (((q3 &&& (65535 : Int64)).toInt32).toUInt32.toUInt16.toUInt32.toInt32), iv (((((q3.toUInt64 >>> ((16 : Int32) &&& 0x3f).toInt64.toUInt64).toInt64) &&& (65535 : Int64)).toInt32).toUInt32.toUInt16.toUInt32.toInt32), iv (((((q3.toUInt64 >>> ((32 : Int32) &&& 0x3f).toInt64.toUInt64).toInt64) &&& (65535 : Int64)).toInt32).toUInt32.toUInt16.toUInt32.toInt32), iv (((((q3.toUInt64 >>> ((48 : Int32) &&& 0x3f).toInt64.toUInt64).toInt64) &&& (65535 : Int64)).toInt32).toUInt32.toUInt16.toUInt32.toInt32), rv sg_133, rv (own_pk ((p0 &&& (2147483647 : Int32)) % (7 : Int32)) w0 w1 w2 w3 w4 w5 w6), rv b151] [(.int (1 : Int32))])) _
      exact retN X173 hx (t := .boolean) Bd.returns (by simp) (hb hby at_111) hr
    · show own_Q0 n0 _ T173.heap _
      rw [e173]
      exact ⟨rfl, N173⟩
  · rw [hi] at pre1
    have pre176 : ∀ t, Steps p.tables e below (s₁.setTop (mkF m 63 #[iv p0, iv p1, iv p2, .val (.long q3), .second, iv (4 : Int32), iv (((q3 &&& (65535 : Int64)).toInt32).toUInt32.toUInt16.toUInt32.toInt32), iv (((((q3.toUInt64 >>> ((16 : Int32) &&& 0x3f).toInt64.toUInt64).toInt64) &&& (65535 : Int64)).toInt32).toUInt32.toUInt16.toUInt32.toInt32), iv (((((q3.toUInt64 >>> ((32 : Int32) &&& 0x3f).toInt64.toUInt64).toInt64) &&& (65535 : Int64)).toInt32).toUInt32.toUInt16.toUInt32.toInt32), iv (((((q3.toUInt64 >>> ((48 : Int32) &&& 0x3f).toInt64.toUInt64).toInt64) &&& (65535 : Int64)).toInt32).toUInt32.toUInt16.toUInt32.toInt32), .unset, .unset, .unset] [(.int (((((q3.toUInt64 >>> ((48 : Int32) &&& 0x3f).toInt64.toUInt64).toInt64) &&& (65535 : Int64)).toInt32).toUInt32.toUInt16.toUInt32.toInt32)), (.int (((((q3.toUInt64 >>> ((32 : Int32) &&& 0x3f).toInt64.toUInt64).toInt64) &&& (65535 : Int64)).toInt32).toUInt32.toUInt16.toUInt32.toInt32)), (.int (((((q3.toUInt64 >>> ((16 : Int32) &&& 0x3f).toInt64.toUInt64).toInt64) &&& (65535 : Int64)).toInt32).toUInt32.toUInt16.toUInt32.toInt32)), (.int (((q3 &&& (65535 : Int64)).toInt32).toUInt32.toUInt16.toUInt32.toInt32)), (.int (4 : Int32))])) t → Steps p.tables e below (s₁.setTop (entryFrame m #[(.int p0), (.int p1), (.int p2), (.long q3)] maxLocals)) t := fun t kt => pre1 t (by
     refine XS.lloadN X0.here hx rfl (hb hby at_8) rfl ?_
     refine X0.ldc2Long hx hown (mvT hZ (own_g hw 1 rfl)) (g := (mkF m 9 #[iv p0, iv p1, iv p2, .val (.long q3), .second, iv (4 : Int32), .unset, .unset, .unset, .unset, .unset, .unset, .unset] [(.long q3)])) rfl (hb hby at_9) _ ?_
     refine XS.land X0.here hx rfl (hb hby at_12) rfl ?_
     refine XS.l2i X0.here hx rfl (hb hby at_13) rfl ?_
     refine XS.i2c X0.here hx rfl (hb hby at_14) rfl ?_
     refine XS.istore X0.here hx rfl (hb hby at_15) rfl (l' := #[iv p0, iv p1, iv p2, .val (.long q3), .second, iv (4 : Int32), iv (((q3 &&& (65535 : Int64)).toInt32).toUInt32.toUInt16.toUInt32.toInt32), .unset, .unset, .unset, .unset, .unset, .unset]) rfl ?_
     refine XS.lloadN X0.here hx rfl (hb hby at_17) rfl ?_
     refine XS.bipush X0.here hx rfl (hb hby at_18) ?_
     refine XS.lushr X0.here hx rfl (hb hby at_20) rfl ?_
     refine X0.ldc2Long hx hown (mvT hZ (own_g hw 1 rfl)) (g := (mkF m 21 #[iv p0, iv p1, iv p2, .val (.long q3), .second, iv (4 : Int32), iv (((q3 &&& (65535 : Int64)).toInt32).toUInt32.toUInt16.toUInt32.toInt32), .unset, .unset, .unset, .unset, .unset, .unset] [(.long ((q3.toUInt64 >>> ((16 : Int32) &&& 0x3f).toInt64.toUInt64).toInt64))])) rfl (hb hby at_21) _ ?_
     refine XS.land X0.here hx rfl (hb hby at_24) rfl ?_
     refine XS.l2i X0.here hx rfl (hb hby at_25) rfl ?_
     refine XS.i2c X0.here hx rfl (hb hby at_26) rfl ?_
     show Steps _ _ _ (s₁.setTop (mkF m 27 #[iv p0, iv p1, iv p2, .val (.long q3), .second, iv (4 : Int32), iv (((q3 &&& (65535 : Int64)).toInt32).toUInt32.toUInt16.toUInt32.toInt32), .unset, .unset, .unset, .unset, .unset, .unset] [(.int (((((q3.toUInt64 >>> ((16 : Int32) &&& 0x3f).toInt64.toUInt64).toInt64) &&& (65535 : Int64)).toInt32).toUInt32.toUInt16.toUInt32.toInt32))])) _
     refine XS.istore X0.here hx rfl (hb hby at_27) rfl (l' := #[iv p0, iv p1, iv p2, .val (.long q3), .second, iv (4 : Int32), iv (((q3 &&& (65535 : Int64)).toInt32).toUInt32.toUInt16.toUInt32.toInt32), iv (((((q3.toUInt64 >>> ((16 : Int32) &&& 0x3f).toInt64.toUInt64).toInt64) &&& (65535 : Int64)).toInt32).toUInt32.toUInt16.toUInt32.toInt32), .unset, .unset, .unset, .unset, .unset]) rfl ?_
     refine XS.lloadN X0.here hx rfl (hb hby at_29) rfl ?_
     refine XS.bipush X0.here hx rfl (hb hby at_30) ?_
     refine XS.lushr X0.here hx rfl (hb hby at_32) rfl ?_
     refine X0.ldc2Long hx hown (mvT hZ (own_g hw 1 rfl)) (g := (mkF m 33 #[iv p0, iv p1, iv p2, .val (.long q3), .second, iv (4 : Int32), iv (((q3 &&& (65535 : Int64)).toInt32).toUInt32.toUInt16.toUInt32.toInt32), iv (((((q3.toUInt64 >>> ((16 : Int32) &&& 0x3f).toInt64.toUInt64).toInt64) &&& (65535 : Int64)).toInt32).toUInt32.toUInt16.toUInt32.toInt32), .unset, .unset, .unset, .unset, .unset] [(.long ((q3.toUInt64 >>> ((32 : Int32) &&& 0x3f).toInt64.toUInt64).toInt64))])) rfl (hb hby at_33) _ ?_
     refine XS.land X0.here hx rfl (hb hby at_36) rfl ?_
     refine XS.l2i X0.here hx rfl (hb hby at_37) rfl ?_
     refine XS.i2c X0.here hx rfl (hb hby at_38) rfl ?_
     refine XS.istore X0.here hx rfl (hb hby at_39) rfl (l' := #[iv p0, iv p1, iv p2, .val (.long q3), .second, iv (4 : Int32), iv (((q3 &&& (65535 : Int64)).toInt32).toUInt32.toUInt16.toUInt32.toInt32), iv (((((q3.toUInt64 >>> ((16 : Int32) &&& 0x3f).toInt64.toUInt64).toInt64) &&& (65535 : Int64)).toInt32).toUInt32.toUInt16.toUInt32.toInt32), iv (((((q3.toUInt64 >>> ((32 : Int32) &&& 0x3f).toInt64.toUInt64).toInt64) &&& (65535 : Int64)).toInt32).toUInt32.toUInt16.toUInt32.toInt32), .unset, .unset, .unset, .unset]) rfl ?_
     refine XS.lloadN X0.here hx rfl (hb hby at_41) rfl ?_
     refine XS.bipush X0.here hx rfl (hb hby at_42) ?_
     refine XS.lushr X0.here hx rfl (hb hby at_44) rfl ?_
     refine X0.ldc2Long hx hown (mvT hZ (own_g hw 1 rfl)) (g := (mkF m 45 #[iv p0, iv p1, iv p2, .val (.long q3), .second, iv (4 : Int32), iv (((q3 &&& (65535 : Int64)).toInt32).toUInt32.toUInt16.toUInt32.toInt32), iv (((((q3.toUInt64 >>> ((16 : Int32) &&& 0x3f).toInt64.toUInt64).toInt64) &&& (65535 : Int64)).toInt32).toUInt32.toUInt16.toUInt32.toInt32), iv (((((q3.toUInt64 >>> ((32 : Int32) &&& 0x3f).toInt64.toUInt64).toInt64) &&& (65535 : Int64)).toInt32).toUInt32.toUInt16.toUInt32.toInt32), .unset, .unset, .unset, .unset] [(.long ((q3.toUInt64 >>> ((48 : Int32) &&& 0x3f).toInt64.toUInt64).toInt64))])) rfl (hb hby at_45) _ ?_
     refine XS.land X0.here hx rfl (hb hby at_48) rfl ?_
     refine XS.l2i X0.here hx rfl (hb hby at_49) rfl ?_
     refine XS.i2c X0.here hx rfl (hb hby at_50) rfl ?_
     refine XS.istore X0.here hx rfl (hb hby at_51) rfl (l' := #[iv p0, iv p1, iv p2, .val (.long q3), .second, iv (4 : Int32), iv (((q3 &&& (65535 : Int64)).toInt32).toUInt32.toUInt16.toUInt32.toInt32), iv (((((q3.toUInt64 >>> ((16 : Int32) &&& 0x3f).toInt64.toUInt64).toInt64) &&& (65535 : Int64)).toInt32).toUInt32.toUInt16.toUInt32.toInt32), iv (((((q3.toUInt64 >>> ((32 : Int32) &&& 0x3f).toInt64.toUInt64).toInt64) &&& (65535 : Int64)).toInt32).toUInt32.toUInt16.toUInt32.toInt32), iv (((((q3.toUInt64 >>> ((48 : Int32) &&& 0x3f).toInt64.toUInt64).toInt64) &&& (65535 : Int64)).toInt32).toUInt32.toUInt16.toUInt32.toInt32), .unset, .unset, .unset]) rfl ?_
     refine XS.iload X0.here hx rfl (hb hby at_53) rfl ?_
     refine XS.iload X0.here hx rfl (hb hby at_55) rfl ?_
     refine XS.iload X0.here hx rfl (hb hby at_57) rfl ?_
     refine XS.iload X0.here hx rfl (hb hby at_59) rfl ?_
     refine XS.iload X0.here hx rfl (hb hby at_61) rfl ?_
     exact kt)
    obtain ⟨_, _, ⟨T177, L177, k177, n177⟩, -, X177, ⟨Lc177, hQ177, l177, y177, z177⟩, st177⟩ := Jvm.LawKit.callS X0 hx (y := own_y10) hown (mvT hZ (own_g hw 2 rfl)) (mvT hZ (own_g hw 3 rfl)) (mvT hZ (own_g hw 4 rfl)) (mvT hZ (own_g hw 5 rfl)) (by decide) (backOf (W := 0) (rmMk_4 l Z a0 hw [] (((q3 &&& (65535 : Int64)).toInt32).toUInt32.toUInt16.toUInt32.toInt32) (((((q3.toUInt64 >>> ((16 : Int32) &&& 0x3f).toInt64.toUInt64).toInt64) &&& (65535 : Int64)).toInt32).toUInt32.toUInt16.toUInt32.toInt32) (((((q3.toUInt64 >>> ((32 : Int32) &&& 0x3f).toInt64.toUInt64).toInt64) &&& (65535 : Int64)).toInt32).toUInt32.toUInt16.toUInt32.toInt32) (((((q3.toUInt64 >>> ((48 : Int32) &&& 0x3f).toInt64.toUInt64).toInt64) &&& (65535 : Int64)).toInt32).toUInt32.toUInt16.toUInt32.toInt32) zC h0 n0 Z0 P_S_StringUTF16__assertionsDisabled P_S_StringUTF16_HI_BYTE_SHIFT P_S_StringUTF16_LO_BYTE_SHIFT P_S_String_COMPACT_STRINGS hz) hZ (own_g hw 5 rfl) (own_g hw 4 rfl) (by decide) (by decide)) (g := (mkF m 63 #[iv p0, iv p1, iv p2, .val (.long q3), .second, iv (4 : Int32), iv (((q3 &&& (65535 : Int64)).toInt32).toUInt32.toUInt16.toUInt32.toInt32), iv (((((q3.toUInt64 >>> ((16 : Int32) &&& 0x3f).toInt64.toUInt64).toInt64) &&& (65535 : Int64)).toInt32).toUInt32.toUInt16.toUInt32.toInt32), iv (((((q3.toUInt64 >>> ((32 : Int32) &&& 0x3f).toInt64.toUInt64).toInt64) &&& (65535 : Int64)).toInt32).toUInt32.toUInt16.toUInt32.toInt32), iv (((((q3.toUInt64 >>> ((48 : Int32) &&& 0x3f).toInt64.toUInt64).toInt64) &&& (65535 : Int64)).toInt32).toUInt32.toUInt16.toUInt32.toInt32), .unset, .unset, .unset] [(.int (((((q3.toUInt64 >>> ((48 : Int32) &&& 0x3f).toInt64.toUInt64).toInt64) &&& (65535 : Int64)).toInt32).toUInt32.toUInt16.toUInt32.toInt32)), (.int (((((q3.toUInt64 >>> ((32 : Int32) &&& 0x3f).toInt64.toUInt64).toInt64) &&& (65535 : Int64)).toInt32).toUInt32.toUInt16.toUInt32.toInt32)), (.int (((((q3.toUInt64 >>> ((16 : Int32) &&& 0x3f).toInt64.toUInt64).toInt64) &&& (65535 : Int64)).toInt32).toUInt32.toUInt16.toUInt32.toInt32)), (.int (((q3 &&& (65535 : Int64)).toInt32).toUInt32.toUInt16.toUInt32.toInt32)), (.int (4 : Int32))])) rfl (by rw [hml]; rfl) (argsL := [(.int (4 : Int32)), (.int (((q3 &&& (65535 : Int64)).toInt32).toUInt32.toUInt16.toUInt32.toInt32)), (.int (((((q3.toUInt64 >>> ((16 : Int32) &&& 0x3f).toInt64.toUInt64).toInt64) &&& (65535 : Int64)).toInt32).toUInt32.toUInt16.toUInt32.toInt32)), (.int (((((q3.toUInt64 >>> ((32 : Int32) &&& 0x3f).toInt64.toUInt64).toInt64) &&& (65535 : Int64)).toInt32).toUInt32.toUInt16.toUInt32.toInt32)), (.int (((((q3.toUInt64 >>> ((48 : Int32) &&& 0x3f).toInt64.toUInt64).toInt64) &&& (65535 : Int64)).toInt32).toUInt32.toUInt16.toUInt32.toInt32))]) (rest := []) (lenOf pd__ICCCC_Ljava_lang_String_ rfl) rfl (by show 2 * 0 + _ ≤ _; exact Nat.le_of_eq rfl) (hb hby at_63) (fun _ _ => ⟨rfl, e0, (by decide : 0 + 4 ≤ _), (by decide : 0 + 20 ≤ _)⟩)
    dsimp only [Pt.U, Pt.locs, Pt.cells, Pt.slots] at X177 l177 y177 z177 st177 hQ177
    subst l177 y177 z177
    obtain ⟨sg_177, t_177, kt_177, z_177, vs_177, cd_177, rfl, N177q, K177, sx177_0, sx177_1, px177_0, f178, f179, f180, f181, f182, f183⟩ := hQ177
    have osg_177 : n0 ≤ sg_177 := Nat.le_trans Z0 sx177_0
    have zsg_177 : h0.size ≤ sg_177 := Nat.le_trans (Keep.refl h0 []).1 sx177_0
    have ot_177 : n0 ≤ t_177 := Nat.le_trans Z0 sx177_1
    have zt_177 : h0.size ≤ t_177 := Nat.le_trans (Keep.refl h0 []).1 sx177_1
    have KK177 : Keep h0 T177.heap [] := Keep.trans (Keep.refl h0 []) K177 all0
    have CH184 : CHr Z own_EL s.vm h0 s.vm T177.heap := CH0.trans (CHr.keep K177 sf0 CH0.1)
    have N177 := Fr.app N0 N177q
    have pre185 : ∀ t, Steps p.tables e below (T177.setTop (mkF m 75 #[iv p0, iv p1, iv p2, .val (.long q3), .second, iv (4 : Int32), iv (((q3 &&& (65535 : Int64)).toInt32).toUInt32.toUInt16.toUInt32.toInt32), iv (((((q3.toUInt64 >>> ((16 : Int32) &&& 0x3f).toInt64.toUInt64).toInt64) &&& (65535 : Int64)).toInt32).toUInt32.toUInt16.toUInt32.toInt32), iv (((((q3.toUInt64 >>> ((32 : Int32) &&& 0x3f).toInt64.toUInt64).toInt64) &&& (65535 : Int64)).toInt32).toUInt32.toUInt16.toUInt32.toInt32), iv (((((q3.toUInt64 >>> ((48 : Int32) &&& 0x3f).toInt64.toUInt64).toInt64) &&& (65535 : Int64)).toInt32).toUInt32.toUInt16.toUInt32.toInt32), rv sg_177, .unset, .unset] [(.int ((p0 &&& (2147483647 : Int32)) % (7 : Int32)))])) t → Steps p.tables e below (s₁.setTop (entryFrame m #[(.int p0), (.int p1), (.int p2), (.long q3)] maxLocals)) t := fun t kt => pre176 t (by
     show Steps _ _ _ (s₁.setTop (mkF m 63 #[iv p0, iv p1, iv p2, .val (.long q3), .second, iv (4 : Int32), iv (((q3 &&& (65535 : Int64)).toInt32).toUInt32.toUInt16.toUInt32.toInt32), iv (((((q3.toUInt64 >>> ((16 : Int32) &&& 0x3f).toInt64.toUInt64).toInt64) &&& (65535 : Int64)).toInt32).toUInt32.toUInt16.toUInt32.toInt32), iv (((((q3.toUInt64 >>> ((32 : Int32) &&& 0x3f).toInt64.toUInt64).toInt64) &&& (65535 : Int64)).toInt32).toUInt32.toUInt16.toUInt32.toInt32), iv (((((q3.toUInt64 >>> ((48 : Int32) &&& 0x3f).toInt64.toUInt64).toInt64) &&& (65535 : Int64)).toInt32).toUInt32.toUInt16.toUInt32.toInt32), .unset, .unset, .unset] [(.int (((((q3.toUInt64 >>> ((48 : Int32) &&& 0x3f).toInt64.toUInt64).toInt64) &&& (65535 : Int64)).toInt32).toUInt32.toUInt16.toUInt32.toInt32)), (.int (((((q3.toUInt64 >>> ((32 : Int32) &&& 0x3f).toInt64.toUInt64).toInt64) &&& (65535 : Int64)).toInt32).toUInt32.toUInt16.toUInt32.toInt32)), (.int (((((q3.toUInt64 >>> ((16 : Int32) &&& 0x3f).toInt64.toUInt64).toInt64) &&& (65535 : Int64)).toInt32).toUInt32.toUInt16.toUInt32.toInt32)), (.int (((q3 &&& (65535 : Int64)).toInt32).toUInt32.toUInt16.toUInt32.toInt32)), (.int (4 : Int32))])) _
     refine st177 _ ?_
     refine XS.astore X177.here hx rfl (hb hby at_66) rfl rfl (l' := #[iv p0, iv p1, iv p2, .val (.long q3), .second, iv (4 : Int32), iv (((q3 &&& (65535 : Int64)).toInt32).toUInt32.toUInt16.toUInt32.toInt32), iv (((((q3.toUInt64 >>> ((16 : Int32) &&& 0x3f).toInt64.toUInt64).toInt64) &&& (65535 : Int64)).toInt32).toUInt32.toUInt16.toUInt32.toInt32), iv (((((q3.toUInt64 >>> ((32 : Int32) &&& 0x3f).toInt64.toUInt64).toInt64) &&& (65535 : Int64)).toInt32).toUInt32.toUInt16.toUInt32.toInt32), iv (((((q3.toUInt64 >>> ((48 : Int32) &&& 0x3f).toInt64.toUInt64).toInt64) &&& (65535 : Int64)).toInt32).toUInt32.toUInt16.toUInt32.toInt32), rv sg_177, .unset, .unset]) rfl ?_
     refine XS.iloadN X177.here hx rfl (hb hby at_68) rfl ?_
     show Steps _ _ _ (T177.setTop (mkF m 69 #[iv p0, iv p1, iv p2, .val (.long q3), .second, iv (4 : Int32), iv (((q3 &&& (65535 : Int64)).toInt32).toUInt32.toUInt16.toUInt32.toInt32), iv (((((q3.toUInt64 >>> ((16 : Int32) &&& 0x3f).toInt64.toUInt64).toInt64) &&& (65535 : Int64)).toInt32).toUInt32.toUInt16.toUInt32.toInt32), iv (((((q3.toUInt64 >>> ((32 : Int32) &&& 0x3f).toInt64.toUInt64).toInt64) &&& (65535 : Int64)).toInt32).toUInt32.toUInt16.toUInt32.toInt32), iv (((((q3.toUInt64 >>> ((48 : Int32) &&& 0x3f).toInt64.toUInt64).toInt64) &&& (65535 : Int64)).toInt32).toUInt32.toUInt16.toUInt32.toInt32), rv sg_177, .unset, .unset] [(.int p0)])) _
     refine X177.ldcInt hx hown (mvT hZ (own_g hw 0 rfl)) (g := (mkF m 69 #[iv p0, iv p1, iv p2, .val (.long q3), .second, iv (4 : Int32), iv (((q3 &&& (65535 : Int64)).toInt32).toUInt32.toUInt16.toUInt32.toInt32), iv (((((q3.toUInt64 >>> ((16 : Int32) &&& 0x3f).toInt64.toUInt64).toInt64) &&& (65535 : Int64)).toInt32).toUInt32.toUInt16.toUInt32.toInt32), iv (((((q3.toUInt64 >>> ((32 : Int32) &&& 0x3f).toInt64.toUInt64).toInt64) &&& (65535 : Int64)).toInt32).toUInt32.toUInt16.toUInt32.toInt32), iv (((((q3.toUInt64 >>> ((48 : Int32) &&& 0x3f).toInt64.toUInt64).toInt64) &&& (65535 : Int64)).toInt32).toUInt32.toUInt16.toUInt32.toInt32), rv sg_177, .unset, .unset] [(.int p0)])) rfl (hb hby at_69) _ ?_
     refine XS.iand X177.here hx rfl (hb hby at_71) rfl ?_
     refine XS.bipush X177.here hx rfl (hb hby at_72) ?_
     refine iremM X177 hx rfl (hb hby at_74) rfl (by decide : ¬ ((7 : Int32) = (0 : Int32))) ?_
     exact kt)
    have f186 : Sta Z T177.heap "com/example/apq/apq/jpql/Token$Kind" "WORD" "Lcom/example/apq/apq/jpql/Token$Kind;" (.ref w0) := (own_staKeep P_S_Token_Kind_WORD K177 ns0)
    have f187 : Sta Z T177.heap "com/example/apq/apq/jpql/Token$Kind" "STRING" "Lcom/example/apq/apq/jpql/Token$Kind;" (.ref w1) := (own_staKeep P_S_Token_Kind_STRING K177 ns0)
    have f188 : Sta Z T177.heap "com/example/apq/apq/jpql/Token$Kind" "NUMBER" "Lcom/example/apq/apq/jpql/Token$Kind;" (.ref w2) := (own_staKeep P_S_Token_Kind_NUMBER K177 ns0)
    have f189 : Sta Z T177.heap "com/example/apq/apq/jpql/Token$Kind" "DATETIME" "Lcom/example/apq/apq/jpql/Token$Kind;" (.ref w3) := (own_staKeep P_S_Token_Kind_DATETIME K177 ns0)
    have f190 : Sta Z T177.heap "com/example/apq/apq/jpql/Token$Kind" "PARAMETER" "Lcom/example/apq/apq/jpql/Token$Kind;" (.ref w4) := (own_staKeep P_S_Token_Kind_PARAMETER K177 ns0)
    have f191 : Sta Z T177.heap "com/example/apq/apq/jpql/Token$Kind" "SYMBOL" "Lcom/example/apq/apq/jpql/Token$Kind;" (.ref w5) := (own_staKeep P_S_Token_Kind_SYMBOL K177 ns0)
    have f192 : Sta Z T177.heap "com/example/apq/apq/jpql/Token$Kind" "END" "Lcom/example/apq/apq/jpql/Token$Kind;" (.ref w6) := (own_staKeep P_S_Token_Kind_END K177 ns0)
    have f193 : n0 ≤ T177.heap.size := (Nat.le_trans Z0 K177.1)
    obtain ⟨_, _, ⟨T194, L194, k194, n194⟩, -, X194, ⟨Lc194, hQ194, l194, y194, z194⟩, st194⟩ := Jvm.LawKit.callS X177 hx (y := own_y11) hown (mvT hZ (own_g hw 55 rfl)) (mvT hZ (own_g hw 56 rfl)) (mvT hZ (own_g hw 4 rfl)) (mvT hZ (own_g hw 57 rfl)) (by decide) (backOf (W := 0) (rmPK l Z a0 hw [] ((p0 &&& (2147483647 : Int32)) % (7 : Int32)) w0 w1 w2 w3 w4 w5 w6 T177.heap n0 f193 f186 f187 f188 f189 f190 f191 f192) hZ (own_g hw 57 rfl) (own_g hw 4 rfl) (by decide) (by decide)) (g := (mkF m 75 #[iv p0, iv p1, iv p2, .val (.long q3), .second, iv (4 : Int32), iv (((q3 &&& (65535 : Int64)).toInt32).toUInt32.toUInt16.toUInt32.toInt32), iv (((((q3.toUInt64 >>> ((16 : Int32) &&& 0x3f).toInt64.toUInt64).toInt64) &&& (65535 : Int64)).toInt32).toUInt32.toUInt16.toUInt32.toInt32), iv (((((q3.toUInt64 >>> ((32 : Int32) &&& 0x3f).toInt64.toUInt64).toInt64) &&& (65535 : Int64)).toInt32).toUInt32.toUInt16.toUInt32.toInt32), iv (((((q3.toUInt64 >>> ((48 : Int32) &&& 0x3f).toInt64.toUInt64).toInt64) &&& (65535 : Int64)).toInt32).toUInt32.toUInt16.toUInt32.toInt32), rv sg_177, .unset, .unset] [(.int ((p0 &&& (2147483647 : Int32)) % (7 : Int32)))])) rfl (by rw [hml]; rfl) (argsL := [(.int ((p0 &&& (2147483647 : Int32)) % (7 : Int32)))]) (rest := []) (lenOf pd__I_Lcom_example_apq_apq_jpql_Token_Kind_ rfl) rfl (by show 2 * 0 + _ ≤ _; exact Nat.le_of_eq rfl) (hb hby at_75) (fun _ _ => ⟨rfl, rfl, (by decide : 4 + 0 ≤ _), (by decide : 20 + 0 ≤ _)⟩)
    dsimp only [Pt.U, Pt.locs, Pt.cells, Pt.slots] at X194 l194 y194 z194 st194 hQ194
    subst l194 y194 z194
    obtain ⟨rfl, N194q, e194⟩ := hQ194
    have N194 := Fr.app N177 N194q
    obtain ⟨T195, h195, X195, e195, E195, A195, D195, U195, st195⟩ := newO X194 hx hZ hown (own_g hw 61 rfl) (own_g hw 62 rfl) (own_g hw 63 rfl) e194 (g := (mkF m 80 #[iv p0, iv p1, iv p2, .val (.long q3), .second, iv (4 : Int32), iv (((q3 &&& (65535 : Int64)).toInt32).toUInt32.toUInt16.toUInt32.toInt32), iv (((((q3.toUInt64 >>> ((16 : Int32) &&& 0x3f).toInt64.toUInt64).toInt64) &&& (65535 : Int64)).toInt32).toUInt32.toUInt16.toUInt32.toInt32), iv (((((q3.toUInt64 >>> ((32 : Int32) &&& 0x3f).toInt64.toUInt64).toInt64) &&& (65535 : Int64)).toInt32).toUInt32.toUInt16.toUInt32.toInt32), iv (((((q3.toUInt64 >>> ((48 : Int32) &&& 0x3f).toInt64.toUInt64).toInt64) &&& (65535 : Int64)).toInt32).toUInt32.toUInt16.toUInt32.toInt32), rv sg_177, rv (own_pk ((p0 &&& (2147483647 : Int32)) % (7 : Int32)) w0 w1 w2 w3 w4 w5 w6), .unset] [])) rfl (hb hby at_80) (by decide) (by decide)
    obtain ⟨b195, g195⟩ : ∃ z, z = T177.heap.size := ⟨_, rfl⟩
    rw [← g195] at A195 D195 U195 st195
    have ne196 : sg_177 ≠ b195 := Nat.ne_of_lt (Nat.lt_of_lt_of_le f178.lt (Nat.le_of_eq g195.symm))
    have ne197 : t_177 ≠ b195 := Nat.ne_of_lt (Nat.lt_of_lt_of_le f181.lt (Nat.le_of_eq g195.symm))
    have o195 : n0 ≤ b195 := Nat.le_trans f193 (Nat.le_of_eq g195.symm)
    have z195 : h0.size ≤ b195 := Nat.le_trans KK177.1 (Nat.le_of_eq g195.symm)
    have CH198 : CHr Z own_EL s.vm h0 s.vm h195 := CH184.trans (CHr.ext E195 CH184.1)
    have Yb199 : Safe Z own_EL s.vm h195 b195 := Safe.ext E195 CH184.1 (Safe.new (Nat.le_of_eq g195.symm))
    have K195 : Keep h0 h195 [] := KK177.ext E195
    have f200 : Fld Z h195 b195 "com/example/apq/apq/jpql/Token" "kind" "Lcom/example/apq/apq/jpql/Token$Kind;" .null := D195 (Or.inr (own_g hw 74 rfl)) (ty := (.object "com/example/apq/apq/jpql/Token$Kind")) (by decide)
    have f201 : Fld Z h195 b195 "com/example/apq/apq/jpql/Token" "text" "Ljava/lang/String;" .null := D195 (Or.inr (own_g hw 76 rfl)) (ty := (.object "java/lang/String")) (by decide)
    have f202 : Fld Z h195 b195 "com/example/apq/apq/jpql/Token" "offset" "I" (.int (0 : Int32)) := D195 (Or.inr (own_g hw 78 rfl)) (ty := .int) (by decide)
    have pre203 : ∀ t, Steps p.tables e below (T195.setTop (mkF m 89 #[iv p0, iv p1, iv p2, .val (.long q3), .second, iv (4 : Int32), iv (((q3 &&& (65535 : Int64)).toInt32).toUInt32.toUInt16.toUInt32.toInt32), iv (((((q3.toUInt64 >>> ((16 : Int32) &&& 0x3f).toInt64.toUInt64).toInt64) &&& (65535 : Int64)).toInt32).toUInt32.toUInt16.toUInt32.toInt32), iv (((((q3.toUInt64 >>> ((32 : Int32) &&& 0x3f).toInt64.toUInt64).toInt64) &&& (65535 : Int64)).toInt32).toUInt32.toUInt16.toUInt32.toInt32), iv (((((q3.toUInt64 >>> ((48 : Int32) &&& 0x3f).toInt64.toUInt64).toInt64) &&& (65535 : Int64)).toInt32).toUInt32.toUInt16.toUInt32.toInt32), rv sg_177, rv (own_pk ((p0 &&& (2147483647 : Int32)) % (7 : Int32)) w0 w1 w2 w3 w4 w5 w6), .unset] [(.int p1), (.ref sg_177), (.ref (own_pk ((p0 &&& (2147483647 : Int32)) % (7 : Int32)) w0 w1 w2 w3 w4 w5 w6)), (.ref b195), (.ref b195)])) t → Steps p.tables e below (s₁.setTop (entryFrame m #[(.int p0), (.int p1), (.int p2), (.long q3)] maxLocals)) t := fun t kt => pre185 t (by
     show Steps _ _ _ (T177.setTop (mkF m 75 #[iv p0, iv p1, iv p2, .val (.long q3), .second, iv (4 : Int32), iv (((q3 &&& (65535 : Int64)).toInt32).toUInt32.toUInt16.toUInt32.toInt32), iv (((((q3.toUInt64 >>> ((16 : Int32) &&& 0x3f).toInt64.toUInt64).toInt64) &&& (65535 : Int64)).toInt32).toUInt32.toUInt16.toUInt32.toInt32), iv (((((q3.toUInt64 >>> ((32 : Int32) &&& 0x3f).toInt64.toUInt64).toInt64) &&& (65535 : Int64)).toInt32).toUInt32.toUInt16.toUInt32.toInt32), iv (((((q3.toUInt64 >>> ((48 : Int32) &&& 0x3f).toInt64.toUInt64).toInt64) &&& (65535 : Int64)).toInt32).toUInt32.toUInt16.toUInt32.toInt32), rv sg_177, .unset, .unset] [(.int ((p0 &&& (2147483647 : Int32)) % (7 : Int32)))])) _
     refine st194 _ ?_
     refine XS.astore X194.here hx rfl (hb hby at_78) rfl rfl (l' := #[iv p0, iv p1, iv p2, .val (.long q3), .second, iv (4 : Int32), iv (((q3 &&& (65535 : Int64)).toInt32).toUInt32.toUInt16.toUInt32.toInt32), iv (((((q3.toUInt64 >>> ((16 : Int32) &&& 0x3f).toInt64.toUInt64).toInt64) &&& (65535 : Int64)).toInt32).toUInt32.toUInt16.toUInt32.toInt32), iv (((((q3.toUInt64 >>> ((32 : Int32) &&& 0x3f).toInt64.toUInt64).toInt64) &&& (65535 : Int64)).toInt32).toUInt32.toUInt16.toUInt32.toInt32), iv (((((q3.toUInt64 >>> ((48 : Int32) &&& 0x3f).toInt64.toUInt64).toInt64) &&& (65535 : Int64)).toInt32).toUInt32.toUInt16.toUInt32.toInt32), rv sg_177, rv (own_pk ((p0 &&& (2147483647 : Int32)) % (7 : Int32)) w0 w1 w2 w3 w4 w5 w6), .unset]) rfl ?_
     refine st195 _ ?_
     refine XS.dup X195.here hx rfl (hb hby at_83) rfl rfl ?_
     refine XS.aload X195.here hx rfl (hb hby at_84) rfl rfl ?_
     refine XS.aload X195.here hx rfl (hb hby at_86) rfl rfl ?_
     refine XS.iloadN X195.here hx rfl (hb hby at_88) rfl ?_
     exact kt)
    have f204 : n0 ≤ h195.size := (Nat.le_trans f193 E195.1)
    obtain ⟨_, _, ⟨T205, L205, k205, n205⟩, -, X205, ⟨Lc205, hQ205, l205, y205, z205⟩, st205⟩ := X195.specialBack hx (y := own_y13) rfl hown (mvT hZ (own_g hw 64 rfl)) (mvT hZ (own_g hw 65 rfl)) (mvT hZ (own_g hw 66 rfl)) (by decide) (backOf (W := 1) (rmTI l Z a0 hw [] b195 (own_pk ((p0 &&& (2147483647 : Int32)) % (7 : Int32)) w0 w1 w2 w3 w4 w5 w6) sg_177 p1 h195 n0 f204 A195 f200 f201 f202 o195) hZ (own_g hw 66 rfl) (own_g hw 63 rfl) (by decide) (by decide)) (g := (mkF m 89 #[iv p0, iv p1, iv p2, .val (.long q3), .second, iv (4 : Int32), iv (((q3 &&& (65535 : Int64)).toInt32).toUInt32.toUInt16.toUInt32.toInt32), iv (((((q3.toUInt64 >>> ((16 : Int32) &&& 0x3f).toInt64.toUInt64).toInt64) &&& (65535 : Int64)).toInt32).toUInt32.toUInt16.toUInt32.toInt32), iv (((((q3.toUInt64 >>> ((32 : Int32) &&& 0x3f).toInt64.toUInt64).toInt64) &&& (65535 : Int64)).toInt32).toUInt32.toUInt16.toUInt32.toInt32), iv (((((q3.toUInt64 >>> ((48 : Int32) &&& 0x3f).toInt64.toUInt64).toInt64) &&& (65535 : Int64)).toInt32).toUInt32.toUInt16.toUInt32.toInt32), rv sg_177, rv (own_pk ((p0 &&& (2147483647 : Int32)) % (7 : Int32)) w0 w1 w2 w3 w4 w5 w6), .unset] [(.int p1), (.ref sg_177), (.ref (own_pk ((p0 &&& (2147483647 : Int32)) % (7 : Int32)) w0 w1 w2 w3 w4 w5 w6)), (.ref b195), (.ref b195)])) rfl (by rw [hml]; rfl) (Steps.refl _) (a := b195) (argsL := [(.ref (own_pk ((p0 &&& (2147483647 : Int32)) % (7 : Int32)) w0 w1 w2 w3 w4 w5 w6)), (.ref sg_177), (.int p1)]) (rest := [(.ref b195)]) (lenOf pd__Lcom_example_apq_apq_jpql_Token_Kind_Ljava_lang_String_I_V rfl) rfl (by show 2 * 0 + _ ≤ _; exact Nat.le_of_eq rfl) (hb hby at_89) (fun _ _ => ⟨rfl, e195, (by decide : 5 + 0 ≤ _), (by decide : 23 + 0 ≤ _)⟩)
    dsimp only [Pt.U, Pt.locs, Pt.cells, Pt.slots] at X205 l205 y205 z205 st205 hQ205
    subst l205 y205 z205
    obtain ⟨rfl, N205q, K205, f206, f207, f208⟩ := hQ205
    have KK205 : Keep h0 T205.heap [] := Keep.trans K195 K205 (allS (Or.inr z195) all0)
    have CH209 : CHr Z own_EL s.vm h0 s.vm T205.heap := CH198.trans (CHr.keep K205 (sfS Yb199 sf0) CH198.1)
    have N205 := Fr.app N194 N205q
    have pre210 : ∀ t, Steps p.tables e below (T205.setTop (mkF m 96 #[iv p0, iv p1, iv p2, .val (.long q3), .second, iv (4 : Int32), iv (((q3 &&& (65535 : Int64)).toInt32).toUInt32.toUInt16.toUInt32.toInt32), iv (((((q3.toUInt64 >>> ((16 : Int32) &&& 0x3f).toInt64.toUInt64).toInt64) &&& (65535 : Int64)).toInt32).toUInt32.toUInt16.toUInt32.toInt32), iv (((((q3.toUInt64 >>> ((32 : Int32) &&& 0x3f).toInt64.toUInt64).toInt64) &&& (65535 : Int64)).toInt32).toUInt32.toUInt16.toUInt32.toInt32), iv (((((q3.toUInt64 >>> ((48 : Int32) &&& 0x3f).toInt64.toUInt64).toInt64) &&& (65535 : Int64)).toInt32).toUInt32.toUInt16.toUInt32.toInt32), rv sg_177, rv (own_pk ((p0 &&& (2147483647 : Int32)) % (7 : Int32)) w0 w1 w2 w3 w4 w5 w6), rv b195] [(.ref b195)])) t → Steps p.tables e below (s₁.setTop (entryFrame m #[(.int p0), (.int p1), (.int p2), (.long q3)] maxLocals)) t := fun t kt => pre203 t (by
     show Steps _ _ _ (T195.setTop (mkF m 89 #[iv p0, iv p1, iv p2, .val (.long q3), .second, iv (4 : Int32), iv (((q3 &&& (65535 : Int64)).toInt32).toUInt32.toUInt16.toUInt32.toInt32), iv (((((q3.toUInt64 >>> ((16 : Int32) &&& 0x3f).toInt64.toUInt64).toInt64) &&& (65535 : Int64)).toInt32).toUInt32.toUInt16.toUInt32.toInt32), iv (((((q3.toUInt64 >>> ((32 : Int32) &&& 0x3f).toInt64.toUInt64).toInt64) &&& (65535 : Int64)).toInt32).toUInt32.toUInt16.toUInt32.toInt32), iv (((((q3.toUInt64 >>> ((48 : Int32) &&& 0x3f).toInt64.toUInt64).toInt64) &&& (65535 : Int64)).toInt32).toUInt32.toUInt16.toUInt32.toInt32), rv sg_177, rv (own_pk ((p0 &&& (2147483647 : Int32)) % (7 : Int32)) w0 w1 w2 w3 w4 w5 w6), .unset] [(.int p1), (.ref sg_177), (.ref (own_pk ((p0 &&& (2147483647 : Int32)) % (7 : Int32)) w0 w1 w2 w3 w4 w5 w6)), (.ref b195), (.ref b195)])) _
     refine st205.trans ?_
     refine XS.astore X205.here hx rfl (hb hby at_92) rfl rfl (l' := #[iv p0, iv p1, iv p2, .val (.long q3), .second, iv (4 : Int32), iv (((q3 &&& (65535 : Int64)).toInt32).toUInt32.toUInt16.toUInt32.toInt32), iv (((((q3.toUInt64 >>> ((16 : Int32) &&& 0x3f).toInt64.toUInt64).toInt64) &&& (65535 : Int64)).toInt32).toUInt32.toUInt16.toUInt32.toInt32), iv (((((q3.toUInt64 >>> ((32 : Int32) &&& 0x3f).toInt64.toUInt64).toInt64) &&& (65535 : Int64)).toInt32).toUInt32.toUInt16.toUInt32.toInt32), iv (((((q3.toUInt64 >>> ((48 : Int32) &&& 0x3f).toInt64.toUInt64).toInt64) &&& (65535 : Int64)).toInt32).toUInt32.toUInt16.toUInt32.toInt32), rv sg_177, rv (own_pk ((p0 &&& (2147483647 : Int32)) % (7 : Int32)) w0 w1 w2 w3 w4 w5 w6), rv b195]) rfl ?_
     refine XS.aload X205.here hx rfl (hb hby at_94) rfl rfl ?_
     exact kt)
    have f211 : Exa Z T205.heap sg_177 "java/lang/String" := ((f178.ext E195).keep K205)
    have f212 : Fld Z T205.heap sg_177 "java/lang/String" "value" "[B" (.ref t_177) := ((f179.ext E195).keep K205 (ninS ne196 nin0))
    have f213 : Fld Z T205.heap sg_177 "java/lang/String" "coder" "B" (.int cd_177) := ((f180.ext E195).keep K205 (ninS ne196 nin0))
    have f214 : Arv Z T205.heap t_177 kt_177 .byte z_177 vs_177 (.int 0) := ((f181.ext E195).keep K205 (ninS ne197 nin0))
    have f215 : Sta Z T205.heap "java/lang/String" "COMPACT_STRINGS" "Z" (.int zC) := (own_staKeep ((own_staKeep P_S_String_COMPACT_STRINGS K177 ns0).ext E195) K205 (nsS A195.nostat ns0))
    have f216 : n0 ≤ T205.heap.size := (Nat.le_trans f204 K205.1)
    obtain ⟨cq218, kq218, q218a, q218b, q218c⟩ := isOf hZ rfl f206
    obtain ⟨_, _, ⟨T217, L217, k217, n217⟩, -, X217, ⟨Lc217, hQ217, l217, y217, z217⟩, st217⟩ := X205.virtualBack hx (y := own_y16) (z := own_y16) hown (mvT hZ (own_g hw 79 rfl)) (mvT hZ (own_g hw 80 rfl)) (notFace_of_selects (args := #[]) (mvT hZ (own_g hw 82 rfl))) (mvT hZ (own_g hw 82 rfl)) (mvT hZ (own_g hw 81 rfl)) (by decide) (backOf (W := 0) (rmEn l Z a0 hw [] b195 p1 sg_177 t_177 kt_177 z_177 vs_177 cd_177 zC T205.heap n0 f216 f208 f207 f211 f212 f213 f214 f215 hz f183) hZ (own_g hw 83 rfl) (own_g hw 63 rfl) (by decide) (by decide)) q218a q218c (g := (mkF m 96 #[iv p0, iv p1, iv p2, .val (.long q3), .second, iv (4 : Int32), iv (((q3 &&& (65535 : Int64)).toInt32).toUInt32.toUInt16.toUInt32.toInt32), iv (((((q3.toUInt64 >>> ((16 : Int32) &&& 0x3f).toInt64.toUInt64).toInt64) &&& (65535 : Int64)).toInt32).toUInt32.toUInt16.toUInt32.toInt32), iv (((((q3.toUInt64 >>> ((32 : Int32) &&& 0x3f).toInt64.toUInt64).toInt64) &&& (65535 : Int64)).toInt32).toUInt32.toUInt16.toUInt32.toInt32), iv (((((q3.toUInt64 >>> ((48 : Int32) &&& 0x3f).toInt64.toUInt64).toInt64) &&& (65535 : Int64)).toInt32).toUInt32.toUInt16.toUInt32.toInt32), rv sg_177, rv (own_pk ((p0 &&& (2147483647 : Int32)) % (7 : Int32)) w0 w1 w2 w3 w4 w5 w6), rv b195] [(.ref b195)])) rfl (by rw [hml]; rfl) (Steps.refl _) (argsL := []) (rest := []) (lenOf pd___I rfl) rfl (by show 2 * 0 + _ ≤ _; exact Nat.le_of_eq rfl) (hb hby at_96) (fun _ _ => ⟨rfl, rfl, (by decide : 5 + 0 ≤ _), (by decide : 23 + 0 ≤ _)⟩)
    dsimp only [Pt.U, Pt.locs, Pt.cells, Pt.slots] at X217 l217 y217 z217 st217 hQ217
    subst l217 y217 z217
    obtain ⟨rfl, N217q, e217⟩ := hQ217
    have N217 := Fr.app N205 N217q
    obtain ⟨fs, hr, hrun, hended, hW, hsame⟩ := X217.leave (v := some (.int (1 : Int32))) (fun h => by rw [Bd.returns] at h; cases h)
    have f219 : h0.size ≤ T205.heap.size := (Nat.le_trans (Nat.le_trans (Nat.le_trans (Nat.le_refl h0.size) K177.1) E195.1) K205.1)
    have qE := hS0.ended (c := room_1.cells) (k := room_1.slots) hW (show _ ≤ T217.heap.size from (by rw [e217]; exact f219)) (hsame.mono (by decide) (by decide))
    refine ⟨_, _, pre210 _ ?_, hrun, hended, _, _, rfl, ?_, ⟨_, rfl⟩, qE.1, qE.2.1, qE.2.2⟩
    · show Steps _ _ _ (T205.setTop (mkF m 96 #[iv p0, iv p1, iv p2, .val (.long q3), .second, iv (4 : Int32), iv (((q3 &&& (65535 : Int64)).toInt32).toUInt32.toUInt16.toUInt32.toInt32), iv (((((q3.toUInt64 >>> ((16 : Int32) &&& 0x3f).toInt64.toUInt64).toInt64) &&& (65535 : Int64)).toInt32).toUInt32.toUInt16.toUInt32.toInt32), iv (((((q3.toUInt64 >>> ((32 : Int32) &&& 0x3f).toInt64.toUInt64).toInt64) &&& (65535 : Int64)).toInt32).toUInt32.toUInt16.toUInt32.toInt32), iv (((((q3.toUInt64 >>> ((48 : Int32) &&& 0x3f).toInt64.toUInt64).toInt64) &&& (65535 : Int64)).toInt32).toUInt32.toUInt16.toUInt32.toInt32), rv sg_177, rv (own_pk ((p0 &&& (2147483647 : Int32)) % (7 : Int32)) w0 w1 w2 w3 w4 w5 w6), rv b195] [(.ref b195)])) _
      refine st217.trans ?_
      refine XS.iloadN X217.here hx rfl (hb hby at_99) rfl ?_
      refine XS.iload X217.here hx rfl (hb hby at_100) rfl ?_
      refine XS.iadd X217.here hx rfl (hb hby at_102) rfl ?_
      refine XS.icmpNo X217.here hx rfl (hb hby at_103) rfl (teq (congrArg (fun q : Int32 => p1 + q) f182)).2 ?_
      refine XS.iconst X217.here hx rfl (hb hby at_106) ?_
      refine XS.goto X217.here hx rfl (pc0 := 107) (pc' := 111) rfl (hb hby at_107) (by decide) (by decide) ?_
      show Steps _ _ _ (T217.setTop (mkF m 111 #[iv p0, iv p1, iv p2, .val (.long q3), .second, iv (4 : Int32), iv (((q3 &&& (65535 : Int64)).toInt32).toUInt32.toUInt16.toUInt32.toInt32), iv (((((q3.toUInt64 >>> ((16 : Int32) &&& 0x3f).toInt64.toUInt64).toInt64) &&& (65535 : Int64)).toInt32).toUInt32.toUInt16.toUInt32.toInt32), iv (((((q3.toUInt64 >>> ((32 : Int32) &&& 0x3f).toInt64.toUInt64).toInt64) &&& (65535 : Int64)).toInt32).toUInt32.toUInt16.toUInt32.toInt32), iv (((((q3.toUInt64 >>> ((48 : Int32) &&& 0x3f).toInt64.toUInt64).toInt64) &&& (65535 : Int64)).toInt32).toUInt32.toUInt16.toUInt32.toInt32), rv sg_177, rv (own_pk ((p0 &&& (2147483647 : Int32)) % (7 : Int32)) w0 w1 w2 w3 w4 w5 w6), rv b195] [(.int (1 : Int32))])) _
      exact retN X217 hx (t := .boolean) Bd.returns (by simp) (hb hby at_111) hr
    · show own_Q0 n0 _ T217.heap _
      rw [e217]
      exact ⟨rfl, N217⟩

set_option maxRecDepth 65536 in
set_option maxHeartbeats 40000000 in
theorem comes_1 {Post : Tables → Env → Array Value → State → Outcome → State → Prop} (hpost : ∀ tb e args s v u, (limb_1_1.after args s (.returned v) u = true ∧ limb_1_2.after args s (.returned v) u = true ∧ True) → ReturnedEndW s (.returned v) u (Jvm.fieldLocs frame_1_writes args s ++ Jvm.arrayLocs frame_1_arrays args s ++ Jvm.staticLocs frame_1_statics s) 24 1152 → Post tb e args s (.returned v) u) :
    ArmFor flags0 classFile x code maxLocals ret World_1 tables_1 room_1 Calls_1 rest_1 Pre_1 Post := by
  intro l hfl _ _ p e ha hc hk s m args below hf hA hF happ hP
  obtain ⟨hcalls, hrest, hpre⟩ := hP
  obtain ⟨-, -, -, hnamed, -, -, -, hat⟩ := (Spec.applies_iff hf).mp happ
  obtain ⟨hg, hn⟩ := and_e (Cond.before_iff.mp (show (Jvm.Cond.and given_1 narrow_1).before args s = true from hpre))
  obtain ⟨g0, gr1⟩ := and_e hg
  obtain ⟨g1, gr2⟩ := and_e gr1
  obtain ⟨g2, gr3⟩ := and_e gr2
  obtain ⟨g3, g4⟩ := and_e gr3
  obtain ⟨k0, kr1⟩ := and_e hn
  obtain ⟨k1, kr2⟩ := and_e kr1
  obtain ⟨k2, kr3⟩ := and_e kr2
  obtain ⟨k3, kr4⟩ := and_e kr3
  obtain ⟨k4, kr5⟩ := and_e kr4
  obtain ⟨k5, k6⟩ := and_e kr5
  obtain ⟨w0, w1, w2, w3, rfl⟩ : ∃ w0 w1 w2 w3 : Value, args = #[w0, w1, w2, w3] := by
    have hs : args.size = 4 := by simpa [Cond.value, given_1] using g0
    obtain ⟨L⟩ := args
    match L, hs with
    | [w0, w1, w2, w3], _ => exact ⟨w0, w1, w2, w3, rfl⟩
  have hw := fun d (hd : d ∈ tables_1) => atoms_spec (ws := Jvm.Cond.code x code maxLocals ret :: tables_1) hat d (List.mem_cons_of_mem _ hd)
  have hfit : Fit s := fun {y c} hc i hi => by
    obtain ⟨ha, rfl⟩ := Array.getElem?_eq_some_iff.mp hc
    have q := List.all_eq_true.mp ((Array.all_eq_true_iff_forall_mem.mp hF) _ (Array.getElem_mem ha)) i (List.mem_range.mpr hi)
    simpa [Array.getElem?_eq_getElem hi] using q
  obtain ⟨hsets, hown0⟩ := atoms_of _ (rest_1_c_eq ▸ (show rest_1_c.before _ s = true from hrest))
  have hr0 := Cond.before_iff.mp hown0
  obtain ⟨i0, ei0⟩ := is_v g1
  obtain rfl : w0 = (.int i0) := Option.some.inj ei0
  obtain ⟨i1, ei1⟩ := is_v g2
  obtain rfl : w1 = (.int i1) := Option.some.inj ei1
  obtain ⟨i2, ei2⟩ := is_v g3
  obtain rfl : w2 = (.int i2) := Option.some.inj ei2
  obtain ⟨i3, ei3⟩ := isL_v g4
  obtain rfl : w3 = (.long i3) := Option.some.inj ei3
  obtain ⟨zC, eC⟩ := is_v (Cond.before_iff.mp (hsets _ (List.mem_of_getElem? (i := 1) rfl)))
  have SC : Sta s s.heap "java/lang/String" "COMPACT_STRINGS" "Z" (.int zC) := Sta.start eC (Or.inl (hsets _ (List.mem_of_getElem? (i := 0) rfl)))
  have hz : ¬ (zC = (0 : Int32)) := gotF (Cond.eq_ints eC (Term.int_eval _)) (not_v (Cond.before_iff.mp (hsets _ (List.mem_of_getElem? (i := 2) rfl))))
  obtain ⟨w0, ew0⟩ := exa_v k0
  obtain ⟨w1, ew1⟩ := exa_v k4
  obtain ⟨w2, ew2⟩ := exa_v k2
  obtain ⟨w3, ew3⟩ := exa_v k6
  obtain ⟨w4, ew4⟩ := exa_v k1
  obtain ⟨w5, ew5⟩ := exa_v k3
  obtain ⟨w6, ew6⟩ := exa_v k5
  obtain ⟨n, o, h1, h2, h3, _, L, rfl, ⟨rfl, N⟩, hq⟩ := rm0 l s _ hw tables_1 i0 i1 i2 i3 zC w0 w1 w2 w3 w4 w5 w6 s.heap s.heap.size (Nat.le_refl _) (Sta.start (own_eqI (Cond.before_iff.mp (hsets _ (List.mem_of_getElem? (i := 12) rfl)))) (Or.inl (hsets _ (List.mem_of_getElem? (i := 11) rfl)))) (Sta.start (own_eqI (Cond.before_iff.mp (hsets _ (List.mem_of_getElem? (i := 15) rfl)))) (Or.inl (hsets _ (List.mem_of_getElem? (i := 14) rfl)))) (Sta.start (own_eqI (Cond.before_iff.mp (hsets _ (List.mem_of_getElem? (i := 18) rfl)))) (Or.inl (hsets _ (List.mem_of_getElem? (i := 17) rfl)))) SC hz (Sta.start ew0 (Or.inr ⟨(own_g hw 59 rfl), (own_g hw 60 rfl)⟩)) (Sta.start ew1 (Or.inr ⟨(own_g hw 59 rfl), (own_g hw 104 rfl)⟩)) (Sta.start ew2 (Or.inr ⟨(own_g hw 59 rfl), (own_g hw 100 rfl)⟩)) (Sta.start ew3 (Or.inr ⟨(own_g hw 59 rfl), (own_g hw 108 rfl)⟩)) (Sta.start ew4 (Or.inr ⟨(own_g hw 59 rfl), (own_g hw 98 rfl)⟩)) (Sta.start ew5 (Or.inr ⟨(own_g hw 59 rfl), (own_g hw 102 rfl)⟩)) (Sta.start ew6 (Or.inr ⟨(own_g hw 59 rfl), (own_g hw 106 rfl)⟩)) p e ha hc hk s m _ below hf ((Spec.applies_iff_loose hf).mp happ).1 ⟨rfl, State.Warmed39.refl s, rfl, CHv.start (own_hEL hw) (fun p hp => hcalls.1 p hp) (hsets _ (List.mem_of_getElem? (i := 2) rfl)) (own_g hw 25 rfl) (own_g hw 7 rfl)⟩ trivial
  refine ⟨n, _, h1, h2, h3, hpost _ _ _ _ _ _ ⟨Cond.after_iff.mpr rfl, Cond.after_iff.mpr (eq_i res_at (Term.int_eval (1)) rfl), trivial⟩ ⟨hq.1, hq.2.1, hq.2.2.1, (hq.2.2.2.sift fun y hy => Or.inr (N y hy)).mono (by decide) (by decide)⟩⟩
theorem main_1_1 : Claimed_1_1 := comes_1 fun _ _ _ _ _ _ h hF => ⟨h.1, hF⟩
theorem main_1_2 : Claimed_1_2 := comes_1 fun _ _ _ _ _ _ h hF => ⟨h.2.1, hF⟩
end Jvm.Pilot.@@N@@
namespace Jvm.Pilot.@@N@@
open Jvm Jvm.ClassFile Sem Op Lib Jvm.Free Jvm.Stand Jvm.Pilot.@@N@@.Jvm.D
/-! MADE BY PROGRAM (witnessworld.py) out of the Statement's table words and the real class files: 23 classes; the members and pool entries that the words name. The judged class is class 1, her method 1. -/
namespace start1
open Jvm.ClassFile
def u (s : String) : CpInfo := .utf8 (stringToUtf16 s)
/-- a pool by its gaps: so many unusable entries, then the entry; so many at the end -/
def gap : Nat → List CpInfo → List CpInfo
  | 0, r => r
  | n + 1, r => .unusable :: gap n r
def poolList (es : List (Nat × CpInfo)) (last : Nat) : List CpInfo := es.foldr (fun e r => gap e.1 (e.2 :: r)) (gap last [])
def pool (es : List (Nat × CpInfo)) (last : Nat) : Array CpInfo := ⟨poolList es last⟩
def fileOf (pool : Array CpInfo) (this : Nat) (attrs : Array Attribute := #[]) (ms : Array MethodInfo := #[]) (fl : Nat := 33) (sup : Nat := 0) (ifs : Array Nat := #[]) (fds : Array FieldInfo := #[]) : ClassFile where
  minorVersion := 0
  majorVersion := 65
  constantPool := pool
  accessFlags := fl
  thisClass := this
  superClass := sup
  interfaces := ifs
  fields := fds
  methods := ms
  attributes := attrs
def plain (name : String) (sup : Option ClassId) : Class where
  name := name
  kind := .ordinary
  loader := none
  accessFlags := 33
  super := sup
  interfaces := #[]
  cf := none
  fields := #[]
  methods := #[]
  instanceTypes := #[]
  staticTypes := #[]
  resolved := #[]
  callSites := []
  init := .initialized
  statics := none
  mirror := none

def pool0 : Array CpInfo := pool [(5, u "<init>"), (0, u "()V"), (1, .class_ 10), (1, u "java/lang/Object")] 113

def k0c0 : Code := { maxStack := 0, maxLocals := 1, code := object_method_1_code, exceptionTable := #[], attributes := #[] }
def k0m0 : Method := { name := "<init>", desc := "()V", sig := { parameters := [], returnType := none }, accessFlags := 1, code := some k0c0 }
/-- java/lang/Object -/
def k0 : Class := { plain "java/lang/Object" none with
  accessFlags := 33
  interfaces := #[]
  cf := some (fileOf pool0 8 #[] #[{ accessFlags := 1, nameIndex := 5, descriptorIndex := 6, attributes := #[] }] 33 0 #[] #[])
  fields := #[]
  methods := #[k0m0]
  instanceTypes := #[]
  staticTypes := #[]
  resolved := Array.replicate 124 none
  statics := none }

def pool1 : Array CpInfo := pool [(2, .class_ 4), (1, u "java/lang/Object"), (0, u "<init>"), (0, u "()V"), (0, .integer 2147483647), (0, .long 65535), (1, .methodref 11 12), (0, .class_ 13), (0, .nameAndType 14 15), (0, u "com/example/apq/apq/jpql/TokenEndPinLaw"), (0, u "makeText"), (0, u "(ICCCC)Ljava/lang/String;"), (0, .methodref 11 17), (0, .nameAndType 18 19), (0, u "pickKind"), (0, u "(I)Lcom/example/apq/apq/jpql/Token$Kind;"), (0, .class_ 21), (0, u "com/example/apq/apq/jpql/Token"), (0, .methodref 20 23), (0, .nameAndType 5 24), (0, u "(Lcom/example/apq/apq/jpql/Token$Kind;Ljava/lang/String;I)V"), (0, .methodref 20 26), (0, .nameAndType 27 28), (0, u "end"), (0, u "()I"), (0, .class_ 30), (0, u "java/lang/String"), (0, .methodref 29 32), (0, .nameAndType 5 33), (0, u "([C)V"), (0, .fieldref 35 36), (0, .class_ 37), (0, .nameAndType 38 39), (0, u "com/example/apq/apq/jpql/Token$Kind"), (0, u "WORD"), (0, u "Lcom/example/apq/apq/jpql/Token$Kind;"), (0, .fieldref 35 41), (0, .nameAndType 42 39), (0, u "STRING"), (0, .fieldref 35 44), (0, .nameAndType 45 39), (0, u "NUMBER"), (0, .fieldref 35 47), (0, .nameAndType 48 39), (0, u "DATETIME"), (0, .fieldref 35 50), (0, .nameAndType 51 39), (0, u "PARAMETER"), (0, .fieldref 35 53), (0, .nameAndType 54 39), (0, u "SYMBOL"), (0, .fieldref 35 56), (0, .nameAndType 57 39), (0, u "END"), (2, u "law"), (0, u "(IIIJ)Z")] 5

def k1m0 : Method := { name := "<init>", desc := "()V", sig := { parameters := [], returnType := none }, accessFlags := 1, code := none }
def k1c1 : Code := { maxStack := 5, maxLocals := 13, code := code, exceptionTable := #[], attributes := #[] }
def k1m1 : Method := { name := "law", desc := "(IIIJ)Z", sig := { parameters := [.int, .int, .int, .long], returnType := some .boolean }, accessFlags := 9, code := some k1c1 }
def k1c2 : Code := { maxStack := 6, maxLocals := 5, code := method_3_code, exceptionTable := #[], attributes := #[] }
def k1m2 : Method := { name := "makeText", desc := "(ICCCC)Ljava/lang/String;", sig := { parameters := [.int, .char, .char, .char, .char], returnType := some (.object "java/lang/String") }, accessFlags := 10, code := some k1c2 }
def k1c3 : Code := { maxStack := 2, maxLocals := 1, code := method_4_code, exceptionTable := #[], attributes := #[] }
def k1m3 : Method := { name := "pickKind", desc := "(I)Lcom/example/apq/apq/jpql/Token$Kind;", sig := { parameters := [.int], returnType := some (.object "com/example/apq/apq/jpql/Token$Kind") }, accessFlags := 10, code := some k1c3 }
/-- com/example/apq/apq/jpql/TokenEndPinLaw -/
def k1 : Class := { plain "com/example/apq/apq/jpql/TokenEndPinLaw" (some 0) with
  accessFlags := 49
  interfaces := #[]
  cf := some (fileOf pool1 11 #[] #[{ accessFlags := 1, nameIndex := 5, descriptorIndex := 6, attributes := #[] }, { accessFlags := 9, nameIndex := 60, descriptorIndex := 61, attributes := #[] }, { accessFlags := 10, nameIndex := 14, descriptorIndex := 15, attributes := #[] }, { accessFlags := 10, nameIndex := 18, descriptorIndex := 19, attributes := #[] }] 49 2 #[] #[])
  fields := #[]
  methods := #[k1m0, k1m1, k1m2, k1m3]
  instanceTypes := #[]
  staticTypes := #[]
  resolved := Array.replicate 67 none
  statics := none }

def pool2 : Array CpInfo := pool [(1, .class_ 2), (0, u "java/io/Serializable"), (0, .class_ 4), (0, u "java/lang/Object")] 2

/-- java/io/Serializable -/
def k2 : Class := { plain "java/io/Serializable" (some 0) with
  accessFlags := 1537
  interfaces := #[]
  cf := some (fileOf pool2 1 #[] #[] 1537 3 #[] #[])
  fields := #[]
  methods := #[]
  instanceTypes := #[]
  staticTypes := #[]
  resolved := Array.replicate 7 none
  statics := none }

def pool3 : Array CpInfo := pool [(1, .class_ 2), (0, u "java/lang/Comparable"), (0, .class_ 4), (0, u "java/lang/Object")] 7

/-- java/lang/Comparable -/
def k3 : Class := { plain "java/lang/Comparable" (some 0) with
  accessFlags := 1537
  interfaces := #[]
  cf := some (fileOf pool3 1 #[] #[] 1537 3 #[] #[])
  fields := #[]
  methods := #[]
  instanceTypes := #[]
  staticTypes := #[]
  resolved := Array.replicate 12 none
  statics := none }

def pool4 : Array CpInfo := pool [(2, .class_ 4), (1, u "java/lang/CharSequence"), (42, .class_ 48), (0, u "java/lang/CharSequence$1CodePointIterator"), (10, .class_ 60), (0, u "java/lang/CharSequence$1CharIterator"), (5, .class_ 67), (0, u "java/lang/Object")] 63

/-- java/lang/CharSequence -/
def k4 : Class := { plain "java/lang/CharSequence" (some 0) with
  accessFlags := 1537
  interfaces := #[]
  cf := some (fileOf pool4 2 #[.nestMembers #[47, 59]] #[] 1537 66 #[] #[])
  fields := #[]
  methods := #[]
  instanceTypes := #[]
  staticTypes := #[]
  resolved := Array.replicate 131 none
  statics := none }

def pool5 : Array CpInfo := pool [(1, .class_ 2), (0, u "java/lang/constant/Constable"), (0, .class_ 4), (0, u "java/lang/Object")] 6

/-- java/lang/constant/Constable -/
def k5 : Class := { plain "java/lang/constant/Constable" (some 0) with
  accessFlags := 1537
  interfaces := #[]
  cf := some (fileOf pool5 1 #[] #[] 1537 3 #[] #[])
  fields := #[]
  methods := #[]
  instanceTypes := #[]
  staticTypes := #[]
  resolved := Array.replicate 11 none
  statics := none }

def pool6 : Array CpInfo := pool [(1, .class_ 2), (0, u "java/lang/constant/ConstantDesc"), (0, .class_ 4), (0, u "java/lang/Object")] 32

/-- java/lang/constant/ConstantDesc -/
def k6 : Class := { plain "java/lang/constant/ConstantDesc" (some 0) with
  accessFlags := 1537
  interfaces := #[]
  cf := some (fileOf pool6 1 #[] #[] 1537 3 #[] #[])
  fields := #[]
  methods := #[]
  instanceTypes := #[]
  staticTypes := #[]
  resolved := Array.replicate 37 none
  statics := none }

def pool7 : Array CpInfo := pool [(1, .methodref 2 3), (0, .class_ 4), (0, .nameAndType 5 6), (0, u "java/lang/Object"), (0, u "<init>"), (0, u "()V"), (0, .string 8), (0, u ""), (0, .fieldref 10 11), (0, .class_ 12), (0, .nameAndType 13 14), (0, u "java/lang/String"), (0, u "value"), (0, u "[B"), (0, .fieldref 10 16), (0, .nameAndType 17 18), (0, u "coder"), (0, u "B"), (2, u "hash"), (0, u "I"), (2, u "hashIsZero"), (0, u "Z"), (0, .methodref 10 28), (0, .nameAndType 5 29), (0, u "([CIILjava/lang/Void;)V"), (8, .fieldref 10 39), (0, .nameAndType 40 26), (0, u "COMPACT_STRINGS"), (1, .class_ 44), (1, u "java/lang/StringUTF16"), (0, u "compress"), (1, .methodref 42 48), (0, .nameAndType 49 50), (0, u "coderFromArrayLen"), (0, u "([BI)B"), (126, .methodref 42 178), (0, .nameAndType 45 179), (0, u "([CII)[B"), (154, u "()I"), (0, .methodref 10 336), (0, .nameAndType 17 337), (0, u "()B"), (169, u "length"), (67, .class_ 576), (0, u "java/lang/CharSequence"), (22, u "CASE_INSENSITIVE_ORDER"), (0, u "Ljava/util/Comparator;"), (409, u "([C)V"), (90, u "serialPersistentFields"), (0, u "[Ljava/io/ObjectStreamField;"), (0, .class_ 1104), (0, u "java/lang/String$CaseInsensitiveComparator"), (1, .class_ 1107), (0, u "java/io/Serializable"), (0, .class_ 1109), (0, u "java/lang/Comparable"), (0, .class_ 1111), (0, u "java/lang/constant/Constable"), (0, .class_ 1113), (0, u "java/lang/constant/ConstantDesc"), (2, u "serialVersionUID"), (0, u "J"), (3, u "REPL"), (0, u "C"), (2, u "LATIN1"), (1, u "UTF16")] 323

def k7m0 : Method := { name := "<init>", desc := "()V", sig := { parameters := [], returnType := none }, accessFlags := 1, code := none }
def k7c1 : Code := { maxStack := 5, maxLocals := 2, code := jdk_42_method_3_code, exceptionTable := #[], attributes := #[] }
def k7m1 : Method := { name := "<init>", desc := "([C)V", sig := { parameters := [(.array .char)], returnType := none }, accessFlags := 1, code := some k7c1 }
def k7c2 : Code := { maxStack := 2, maxLocals := 1, code := jdk_42_method_54_code, exceptionTable := #[], attributes := #[] }
def k7m2 : Method := { name := "length", desc := "()I", sig := { parameters := [], returnType := some .int }, accessFlags := 1, code := some k7c2 }
def k7c3 : Code := { maxStack := 4, maxLocals := 6, code := jdk_42_method_149_code, exceptionTable := #[], attributes := #[] }
def k7m3 : Method := { name := "<init>", desc := "([CIILjava/lang/Void;)V", sig := { parameters := [(.array .char), .int, .int, (.object "java/lang/Void")], returnType := none }, accessFlags := 2, code := some k7c3 }
def k7c4 : Code := { maxStack := 1, maxLocals := 1, code := jdk_42_method_152_code, exceptionTable := #[], attributes := #[] }
def k7m4 : Method := { name := "coder", desc := "()B", sig := { parameters := [], returnType := some .byte }, accessFlags := 0, code := some k7c4 }
/-- java/lang/String -/
def k7 : Class := { plain "java/lang/String" (some 0) with
  accessFlags := 49
  interfaces := #[2, 3, 4, 5, 6]
  cf := some (fileOf pool7 10 #[.nestMembers #[1103]] #[{ accessFlags := 1, nameIndex := 5, descriptorIndex := 6, attributes := #[] }, { accessFlags := 1, nameIndex := 5, descriptorIndex := 1010, attributes := #[] }, { accessFlags := 1, nameIndex := 507, descriptorIndex := 334, attributes := #[] }, { accessFlags := 2, nameIndex := 5, descriptorIndex := 29, attributes := #[] }, { accessFlags := 0, nameIndex := 17, descriptorIndex := 337, attributes := #[] }] 49 2 #[1106, 1108, 575, 1110, 1112] #[{ accessFlags := 18, nameIndex := 13, descriptorIndex := 14, attributes := #[] }, { accessFlags := 18, nameIndex := 17, descriptorIndex := 18, attributes := #[] }, { accessFlags := 2, nameIndex := 21, descriptorIndex := 22, attributes := #[] }, { accessFlags := 2, nameIndex := 25, descriptorIndex := 26, attributes := #[] }, { accessFlags := 26, nameIndex := 1116, descriptorIndex := 1117, attributes := #[] }, { accessFlags := 24, nameIndex := 40, descriptorIndex := 26, attributes := #[] }, { accessFlags := 26, nameIndex := 1101, descriptorIndex := 1102, attributes := #[] }, { accessFlags := 26, nameIndex := 1121, descriptorIndex := 1122, attributes := #[] }, { accessFlags := 25, nameIndex := 599, descriptorIndex := 600, attributes := #[] }, { accessFlags := 24, nameIndex := 1125, descriptorIndex := 18, attributes := #[] }, { accessFlags := 24, nameIndex := 1127, descriptorIndex := 18, attributes := #[] }])
  fields := #[{ name := "value", type := (.array .byte), accessFlags := 18, slot := 0, constantValue := 0 }, { name := "coder", type := .byte, accessFlags := 18, slot := 1, constantValue := 0 }, { name := "hash", type := .int, accessFlags := 2, slot := 2, constantValue := 0 }, { name := "hashIsZero", type := .boolean, accessFlags := 2, slot := 3, constantValue := 0 }, { name := "serialVersionUID", type := .long, accessFlags := 26, slot := 0, constantValue := 0 }, { name := "COMPACT_STRINGS", type := .boolean, accessFlags := 24, slot := 1, constantValue := 0 }, { name := "serialPersistentFields", type := (.array (.object "java/io/ObjectStreamField")), accessFlags := 26, slot := 2, constantValue := 0 }, { name := "REPL", type := .char, accessFlags := 26, slot := 3, constantValue := 0 }, { name := "CASE_INSENSITIVE_ORDER", type := (.object "java/util/Comparator"), accessFlags := 25, slot := 4, constantValue := 0 }, { name := "LATIN1", type := .byte, accessFlags := 24, slot := 5, constantValue := 0 }, { name := "UTF16", type := .byte, accessFlags := 24, slot := 6, constantValue := 0 }]
  methods := #[k7m0, k7m1, k7m2, k7m3, k7m4]
  instanceTypes := #[(.array .byte), .byte, .int, .boolean]
  staticTypes := #[.long, .boolean, (.array (.object "java/io/ObjectStreamField")), .char, (.object "java/util/Comparator"), .byte, .byte]
  resolved := Array.replicate 1451 none
  statics := some 0 }

def pool8 : Array CpInfo := pool [(6, .class_ 8), (1, u "java/lang/Object"), (0, u "<init>"), (0, u "()V"), (0, .methodref 12 13), (0, .class_ 14), (0, .nameAndType 15 16), (0, u "java/lang/StringUTF16"), (0, u "newBytesLength"), (0, u "(I)I"), (3, .integer 1073741823), (23, .fieldref 12 45), (0, .nameAndType 46 47), (0, u "$assertionsDisabled"), (0, u "Z"), (11, .fieldref 12 60), (0, .nameAndType 61 62), (0, u "HI_BYTE_SHIFT"), (0, u "I"), (0, .fieldref 12 64), (0, .nameAndType 65 62), (0, u "LO_BYTE_SHIFT"), (5, .methodref 12 72), (0, .nameAndType 73 74), (0, u "getChar"), (0, u "([BI)C"), (32, .methodref 12 108), (0, .nameAndType 109 110), (0, u "newBytesFor"), (0, u "(I)[B"), (0, .methodref 12 112), (0, .nameAndType 113 114), (0, u "putChar"), (0, u "([BII)V"), (0, .methodref 12 116), (0, .nameAndType 117 118), (0, u "compress"), (0, u "([CI[BII)I"), (0, .methodref 12 120), (0, .nameAndType 121 122), (0, u "toBytes"), (0, u "([CII)[B"), (138, u "coderFromArrayLen"), (0, u "([BI)B"), (106, .class_ 371), (1, u "java/lang/StringUTF16$LinesSpliterator"), (58, u "MAX_LENGTH"), (196, .class_ 628), (0, u "java/lang/StringUTF16$CodePointsSpliterator"), (0, .class_ 630), (0, u "java/lang/StringUTF16$CharsSpliterator")] 4

def k8m0 : Method := { name := "<init>", desc := "()V", sig := { parameters := [], returnType := none }, accessFlags := 0, code := none }
def k8c1 : Code := { maxStack := 1, maxLocals := 1, code := jdk_52_method_2_code, exceptionTable := #[], attributes := #[] }
def k8m1 : Method := { name := "newBytesFor", desc := "(I)[B", sig := { parameters := [.int], returnType := some (.array .byte) }, accessFlags := 9, code := some k8c1 }
def k8c2 : Code := { maxStack := 4, maxLocals := 1, code := jdk_52_method_3_code, exceptionTable := #[], attributes := #[] }
def k8m2 : Method := { name := "newBytesLength", desc := "(I)I", sig := { parameters := [.int], returnType := some .int }, accessFlags := 9, code := some k8c2 }
def k8c3 : Code := { maxStack := 4, maxLocals := 3, code := jdk_52_method_4_code, exceptionTable := #[], attributes := #[] }
def k8m3 : Method := { name := "putChar", desc := "([BII)V", sig := { parameters := [(.array .byte), .int, .int], returnType := none }, accessFlags := 8, code := some k8c3 }
def k8c4 : Code := { maxStack := 3, maxLocals := 2, code := jdk_52_method_5_code, exceptionTable := #[], attributes := #[] }
def k8m4 : Method := { name := "getChar", desc := "([BI)C", sig := { parameters := [(.array .byte), .int], returnType := some .char }, accessFlags := 8, code := some k8c4 }
def k8c5 : Code := { maxStack := 4, maxLocals := 5, code := jdk_52_method_14_code, exceptionTable := #[], attributes := #[] }
def k8m5 : Method := { name := "toBytes", desc := "([CII)[B", sig := { parameters := [(.array .char), .int, .int], returnType := some (.array .byte) }, accessFlags := 9, code := some k8c5 }
def k8c6 : Code := { maxStack := 2, maxLocals := 2, code := jdk_52_method_15_code, exceptionTable := #[], attributes := #[] }
def k8m6 : Method := { name := "coderFromArrayLen", desc := "([BI)B", sig := { parameters := [(.array .byte), .int], returnType := some .byte }, accessFlags := 8, code := some k8c6 }
def k8c7 : Code := { maxStack := 5, maxLocals := 6, code := jdk_52_method_16_code, exceptionTable := #[], attributes := #[] }
def k8m7 : Method := { name := "compress", desc := "([CII)[B", sig := { parameters := [(.array .char), .int, .int], returnType := some (.array .byte) }, accessFlags := 9, code := some k8c7 }
def k8c8 : Code := { maxStack := 3, maxLocals := 7, code := jdk_52_method_21_code, exceptionTable := #[], attributes := #[] }
def k8m8 : Method := { name := "compress", desc := "([CI[BII)I", sig := { parameters := [(.array .char), .int, (.array .byte), .int, .int], returnType := some .int }, accessFlags := 9, code := some k8c8 }
/-- java/lang/StringUTF16 -/
def k8 : Class := { plain "java/lang/StringUTF16" (some 0) with
  accessFlags := 48
  interfaces := #[]
  cf := some (fileOf pool8 12 #[.nestMembers #[627, 629, 369]] #[{ accessFlags := 0, nameIndex := 9, descriptorIndex := 10, attributes := #[] }, { accessFlags := 9, nameIndex := 109, descriptorIndex := 110, attributes := #[] }, { accessFlags := 9, nameIndex := 15, descriptorIndex := 16, attributes := #[] }, { accessFlags := 8, nameIndex := 113, descriptorIndex := 114, attributes := #[] }, { accessFlags := 8, nameIndex := 73, descriptorIndex := 74, attributes := #[] }, { accessFlags := 9, nameIndex := 121, descriptorIndex := 122, attributes := #[] }, { accessFlags := 8, nameIndex := 261, descriptorIndex := 262, attributes := #[] }, { accessFlags := 9, nameIndex := 117, descriptorIndex := 122, attributes := #[] }, { accessFlags := 9, nameIndex := 117, descriptorIndex := 118, attributes := #[] }] 48 6 #[] #[{ accessFlags := 26, nameIndex := 61, descriptorIndex := 62, attributes := #[] }, { accessFlags := 26, nameIndex := 65, descriptorIndex := 62, attributes := #[] }, { accessFlags := 24, nameIndex := 430, descriptorIndex := 62, attributes := #[] }, { accessFlags := 4120, nameIndex := 46, descriptorIndex := 47, attributes := #[] }])
  fields := #[{ name := "HI_BYTE_SHIFT", type := .int, accessFlags := 26, slot := 0, constantValue := 0 }, { name := "LO_BYTE_SHIFT", type := .int, accessFlags := 26, slot := 1, constantValue := 0 }, { name := "MAX_LENGTH", type := .int, accessFlags := 24, slot := 2, constantValue := 0 }, { name := "$assertionsDisabled", type := .boolean, accessFlags := 4120, slot := 3, constantValue := 0 }]
  methods := #[k8m0, k8m1, k8m2, k8m3, k8m4, k8m5, k8m6, k8m7, k8m8]
  instanceTypes := #[]
  staticTypes := #[.int, .int, .int, .boolean]
  resolved := Array.replicate 635 none
  statics := some 1 }

def pool9 : Array CpInfo := pool [(2, .class_ 4), (1, u "java/lang/Enum"), (0, u "name"), (0, u "Ljava/lang/String;"), (2, u "ordinal"), (0, u "I"), (1, .class_ 14), (1, u "java/lang/Object"), (4, u "hash"), (86, .class_ 108), (1, u "java/lang/Enum$EnumDesc"), (2, .class_ 112), (0, u "java/lang/constant/Constable"), (0, .class_ 114), (0, u "java/lang/Comparable"), (0, .class_ 116), (0, u "java/io/Serializable")] 87

/-- java/lang/Enum -/
def k9 : Class := { plain "java/lang/Enum" (some 0) with
  accessFlags := 1057
  interfaces := #[5, 3, 2]
  cf := some (fileOf pool9 2 #[.nestMembers #[106]] #[] 1057 12 #[111, 113, 115] #[{ accessFlags := 18, nameIndex := 5, descriptorIndex := 6, attributes := #[] }, { accessFlags := 18, nameIndex := 9, descriptorIndex := 10, attributes := #[] }, { accessFlags := 2, nameIndex := 19, descriptorIndex := 10, attributes := #[] }])
  fields := #[{ name := "name", type := (.object "java/lang/String"), accessFlags := 18, slot := 0, constantValue := 0 }, { name := "ordinal", type := .int, accessFlags := 18, slot := 1, constantValue := 0 }, { name := "hash", type := .int, accessFlags := 2, slot := 2, constantValue := 0 }]
  methods := #[]
  instanceTypes := #[(.object "java/lang/String"), .int, .int]
  staticTypes := #[]
  resolved := Array.replicate 204 none
  statics := none }

def pool10 : Array CpInfo := pool [(1, .class_ 2), (0, u "com/example/apq/apq/jpql/Token$Kind"), (2, u "WORD"), (0, u "Lcom/example/apq/apq/jpql/Token$Kind;"), (2, u "STRING"), (2, u "NUMBER"), (2, u "DATETIME"), (2, u "PARAMETER"), (2, u "SYMBOL"), (2, u "END"), (2, u "$VALUES"), (0, u "[Lcom/example/apq/apq/jpql/Token$Kind;"), (6, .class_ 37), (1, u "java/lang/Enum"), (30, .class_ 69), (0, u "com/example/apq/apq/jpql/Token")] 2

/-- com/example/apq/apq/jpql/Token$Kind -/
def k10 : Class := { plain "com/example/apq/apq/jpql/Token$Kind" (some 9) with
  accessFlags := 16432
  interfaces := #[]
  cf := some (fileOf pool10 1 #[.nestHost 68] #[] 16432 35 #[] #[{ accessFlags := 16409, nameIndex := 5, descriptorIndex := 6, attributes := #[] }, { accessFlags := 16409, nameIndex := 9, descriptorIndex := 6, attributes := #[] }, { accessFlags := 16409, nameIndex := 12, descriptorIndex := 6, attributes := #[] }, { accessFlags := 16409, nameIndex := 15, descriptorIndex := 6, attributes := #[] }, { accessFlags := 16409, nameIndex := 18, descriptorIndex := 6, attributes := #[] }, { accessFlags := 16409, nameIndex := 21, descriptorIndex := 6, attributes := #[] }, { accessFlags := 16409, nameIndex := 24, descriptorIndex := 6, attributes := #[] }, { accessFlags := 4122, nameIndex := 27, descriptorIndex := 28, attributes := #[] }])
  fields := #[{ name := "WORD", type := (.object "com/example/apq/apq/jpql/Token$Kind"), accessFlags := 16409, slot := 0, constantValue := 0 }, { name := "STRING", type := (.object "com/example/apq/apq/jpql/Token$Kind"), accessFlags := 16409, slot := 1, constantValue := 0 }, { name := "NUMBER", type := (.object "com/example/apq/apq/jpql/Token$Kind"), accessFlags := 16409, slot := 2, constantValue := 0 }, { name := "DATETIME", type := (.object "com/example/apq/apq/jpql/Token$Kind"), accessFlags := 16409, slot := 3, constantValue := 0 }, { name := "PARAMETER", type := (.object "com/example/apq/apq/jpql/Token$Kind"), accessFlags := 16409, slot := 4, constantValue := 0 }, { name := "SYMBOL", type := (.object "com/example/apq/apq/jpql/Token$Kind"), accessFlags := 16409, slot := 5, constantValue := 0 }, { name := "END", type := (.object "com/example/apq/apq/jpql/Token$Kind"), accessFlags := 16409, slot := 6, constantValue := 0 }, { name := "$VALUES", type := (.array (.object "com/example/apq/apq/jpql/Token$Kind")), accessFlags := 4122, slot := 7, constantValue := 0 }]
  methods := #[]
  instanceTypes := #[(.object "java/lang/String"), .int, .int]
  staticTypes := #[(.object "com/example/apq/apq/jpql/Token$Kind"), (.object "com/example/apq/apq/jpql/Token$Kind"), (.object "com/example/apq/apq/jpql/Token$Kind"), (.object "com/example/apq/apq/jpql/Token$Kind"), (.object "com/example/apq/apq/jpql/Token$Kind"), (.object "com/example/apq/apq/jpql/Token$Kind"), (.object "com/example/apq/apq/jpql/Token$Kind"), (.array (.object "com/example/apq/apq/jpql/Token$Kind"))]
  resolved := Array.replicate 72 none
  statics := some 2 }

def pool11 : Array CpInfo := pool [(1, .methodref 2 3), (0, .class_ 4), (0, .nameAndType 5 6), (0, u "java/lang/Object"), (0, u "<init>"), (0, u "()V"), (0, .class_ 8), (0, u "java/lang/Record")] 13

def k11c0 : Code := { maxStack := 1, maxLocals := 1, code := jdk_30_method_1_code, exceptionTable := #[], attributes := #[] }
def k11m0 : Method := { name := "<init>", desc := "()V", sig := { parameters := [], returnType := none }, accessFlags := 4, code := some k11c0 }
/-- java/lang/Record -/
def k11 : Class := { plain "java/lang/Record" (some 0) with
  accessFlags := 1057
  interfaces := #[]
  cf := some (fileOf pool11 7 #[] #[{ accessFlags := 4, nameIndex := 5, descriptorIndex := 6, attributes := #[] }] 1057 2 #[] #[])
  fields := #[]
  methods := #[k11m0]
  instanceTypes := #[]
  staticTypes := #[]
  resolved := Array.replicate 22 none
  statics := none }

def pool12 : Array CpInfo := pool [(1, .methodref 2 3), (0, .class_ 4), (0, .nameAndType 5 6), (0, u "java/lang/Record"), (0, u "<init>"), (0, u "()V"), (0, .fieldref 8 9), (0, .class_ 10), (0, .nameAndType 11 12), (0, u "com/example/apq/apq/jpql/Token"), (0, u "kind"), (0, u "Lcom/example/apq/apq/jpql/Token$Kind;"), (0, .fieldref 8 14), (0, .nameAndType 15 16), (0, u "text"), (0, u "Ljava/lang/String;"), (0, .fieldref 8 18), (0, .nameAndType 19 20), (0, u "offset"), (0, u "I"), (0, .methodref 22 23), (0, .class_ 24), (0, .nameAndType 25 26), (0, u "java/lang/String"), (0, u "length"), (0, u "()I"), (1, .class_ 30), (1, u "com/example/apq/apq/jpql/Token$Kind"), (42, u "(Lcom/example/apq/apq/jpql/Token$Kind;Ljava/lang/String;I)V"), (3, u "end")] 31

def k12c0 : Code := { maxStack := 2, maxLocals := 4, code := prog_97_method_1_code, exceptionTable := #[], attributes := #[] }
def k12m0 : Method := { name := "<init>", desc := "(Lcom/example/apq/apq/jpql/Token$Kind;Ljava/lang/String;I)V", sig := { parameters := [(.object "com/example/apq/apq/jpql/Token$Kind"), (.object "java/lang/String"), .int], returnType := none }, accessFlags := 0, code := some k12c0 }
def k12c1 : Code := { maxStack := 2, maxLocals := 1, code := prog_97_method_2_code, exceptionTable := #[], attributes := #[] }
def k12m1 : Method := { name := "end", desc := "()I", sig := { parameters := [], returnType := some .int }, accessFlags := 0, code := some k12c1 }
/-- com/example/apq/apq/jpql/Token -/
def k12 : Class := { plain "com/example/apq/apq/jpql/Token" (some 11) with
  accessFlags := 48
  interfaces := #[]
  cf := some (fileOf pool12 8 #[.nestMembers #[28]] #[{ accessFlags := 0, nameIndex := 5, descriptorIndex := 73, attributes := #[] }, { accessFlags := 0, nameIndex := 77, descriptorIndex := 26, attributes := #[] }] 48 2 #[] #[{ accessFlags := 18, nameIndex := 11, descriptorIndex := 12, attributes := #[] }, { accessFlags := 18, nameIndex := 15, descriptorIndex := 16, attributes := #[] }, { accessFlags := 18, nameIndex := 19, descriptorIndex := 20, attributes := #[] }])
  fields := #[{ name := "kind", type := (.object "com/example/apq/apq/jpql/Token$Kind"), accessFlags := 18, slot := 0, constantValue := 0 }, { name := "text", type := (.object "java/lang/String"), accessFlags := 18, slot := 1, constantValue := 0 }, { name := "offset", type := .int, accessFlags := 18, slot := 2, constantValue := 0 }]
  methods := #[k12m0, k12m1]
  instanceTypes := #[(.object "com/example/apq/apq/jpql/Token$Kind"), (.object "java/lang/String"), .int]
  staticTypes := #[]
  resolved := Array.replicate 109 none
  statics := none }

def pool13 : Array CpInfo := pool [(4, .class_ 6), (1, u "java/lang/Object"), (0, u "<init>"), (0, u "()V"), (5, .class_ 16), (1, u "java/lang/StringLatin1"), (104, u "$assertionsDisabled"), (0, u "Z"), (98, .class_ 223), (1, u "java/lang/StringLatin1$LinesSpliterator"), (166, .class_ 391), (0, u "java/lang/StringLatin1$CharsSpliterator")] 3

def k13m0 : Method := { name := "<init>", desc := "()V", sig := { parameters := [], returnType := none }, accessFlags := 0, code := none }
/-- java/lang/StringLatin1 -/
def k13 : Class := { plain "java/lang/StringLatin1" (some 0) with
  accessFlags := 48
  interfaces := #[]
  cf := some (fileOf pool13 14 #[.nestMembers #[390, 221]] #[{ accessFlags := 0, nameIndex := 7, descriptorIndex := 8, attributes := #[] }] 48 4 #[] #[{ accessFlags := 4120, nameIndex := 121, descriptorIndex := 122, attributes := #[] }])
  fields := #[{ name := "$assertionsDisabled", type := .boolean, accessFlags := 4120, slot := 0, constantValue := 0 }]
  methods := #[k13m0]
  instanceTypes := #[]
  staticTypes := #[.boolean]
  resolved := Array.replicate 395 none
  statics := none }

def pool14 : Array CpInfo := pool [(2, .class_ 4), (1, u "java/lang/Object"), (0, u "<init>"), (0, u "()V"), (17, .class_ 26), (1, u "jdk/internal/util/Preconditions"), (28, .class_ 56), (0, u "jdk/internal/util/Preconditions$4"), (57, .class_ 115), (0, u "jdk/internal/util/Preconditions$1"), (7, u "SIOOBE_FORMATTER"), (0, u "Ljava/util/function/BiFunction;"), (0, .class_ 126), (0, u "jdk/internal/util/Preconditions$2"), (3, u "AIOOBE_FORMATTER"), (0, .class_ 132), (0, u "jdk/internal/util/Preconditions$3"), (3, u "IOOBE_FORMATTER")] 57

def k14m0 : Method := { name := "<init>", desc := "()V", sig := { parameters := [], returnType := none }, accessFlags := 1, code := none }
/-- jdk/internal/util/Preconditions -/
def k14 : Class := { plain "jdk/internal/util/Preconditions" (some 0) with
  accessFlags := 33
  interfaces := #[]
  cf := some (fileOf pool14 24 #[.nestMembers #[55, 131, 125, 114]] #[{ accessFlags := 1, nameIndex := 5, descriptorIndex := 6, attributes := #[] }] 33 2 #[] #[{ accessFlags := 25, nameIndex := 123, descriptorIndex := 124, attributes := #[] }, { accessFlags := 25, nameIndex := 130, descriptorIndex := 124, attributes := #[] }, { accessFlags := 25, nameIndex := 136, descriptorIndex := 124, attributes := #[] }])
  fields := #[{ name := "SIOOBE_FORMATTER", type := (.object "java/util/function/BiFunction"), accessFlags := 25, slot := 0, constantValue := 0 }, { name := "AIOOBE_FORMATTER", type := (.object "java/util/function/BiFunction"), accessFlags := 25, slot := 1, constantValue := 0 }, { name := "IOOBE_FORMATTER", type := (.object "java/util/function/BiFunction"), accessFlags := 25, slot := 2, constantValue := 0 }]
  methods := #[k14m0]
  instanceTypes := #[]
  staticTypes := #[(.object "java/util/function/BiFunction"), (.object "java/util/function/BiFunction"), (.object "java/util/function/BiFunction")]
  resolved := Array.replicate 194 none
  statics := some 3 }

def pool15 : Array CpInfo := pool [(9, u "<init>"), (6, .class_ 18), (1, u "java/lang/Object"), (0, u "()V"), (1, .class_ 23), (1, u "jdk/internal/util/ArraysSupport"), (0, u "LOG2_ARRAY_LONG_INDEX_SCALE"), (0, u "I"), (2, u "U"), (0, u "Ljdk/internal/misc/Unsafe;"), (8, u "BIG_ENDIAN"), (0, u "Z"), (8, u "LOG2_BYTE_BIT_SIZE"), (4, u "LOG2_ARRAY_INT_INDEX_SCALE"), (54, u "JLA"), (0, u "Ljdk/internal/access/JavaLangAccess;"), (11, u "LOG2_ARRAY_BOOLEAN_INDEX_SCALE"), (9, u "LOG2_ARRAY_BYTE_INDEX_SCALE"), (5, u "LOG2_ARRAY_CHAR_INDEX_SCALE"), (5, u "LOG2_ARRAY_SHORT_INDEX_SCALE"), (18, u "LOG2_ARRAY_FLOAT_INDEX_SCALE"), (24, u "LOG2_ARRAY_DOUBLE_INDEX_SCALE"), (89, u "T_BOOLEAN"), (2, u "T_CHAR"), (1, u "T_FLOAT"), (1, u "T_DOUBLE"), (1, u "T_BYTE"), (1, u "T_SHORT"), (1, u "T_INT"), (1, u "T_LONG"), (1, u "SOFT_MAX_ARRAY_LENGTH")] 83

def k15m0 : Method := { name := "<init>", desc := "()V", sig := { parameters := [], returnType := none }, accessFlags := 2, code := none }
/-- jdk/internal/util/ArraysSupport -/
def k15 : Class := { plain "jdk/internal/util/ArraysSupport" (some 0) with
  accessFlags := 33
  interfaces := #[]
  cf := some (fileOf pool15 21 #[] #[{ accessFlags := 2, nameIndex := 9, descriptorIndex := 19, attributes := #[] }] 33 16 #[] #[{ accessFlags := 24, nameIndex := 28, descriptorIndex := 29, attributes := #[] }, { accessFlags := 26, nameIndex := 38, descriptorIndex := 39, attributes := #[] }, { accessFlags := 25, nameIndex := 121, descriptorIndex := 25, attributes := #[] }, { accessFlags := 25, nameIndex := 131, descriptorIndex := 25, attributes := #[] }, { accessFlags := 25, nameIndex := 137, descriptorIndex := 25, attributes := #[] }, { accessFlags := 25, nameIndex := 143, descriptorIndex := 25, attributes := #[] }, { accessFlags := 25, nameIndex := 53, descriptorIndex := 25, attributes := #[] }, { accessFlags := 25, nameIndex := 24, descriptorIndex := 25, attributes := #[] }, { accessFlags := 25, nameIndex := 162, descriptorIndex := 25, attributes := #[] }, { accessFlags := 25, nameIndex := 187, descriptorIndex := 25, attributes := #[] }, { accessFlags := 26, nameIndex := 48, descriptorIndex := 25, attributes := #[] }, { accessFlags := 25, nameIndex := 277, descriptorIndex := 25, attributes := #[] }, { accessFlags := 25, nameIndex := 280, descriptorIndex := 25, attributes := #[] }, { accessFlags := 25, nameIndex := 282, descriptorIndex := 25, attributes := #[] }, { accessFlags := 25, nameIndex := 284, descriptorIndex := 25, attributes := #[] }, { accessFlags := 25, nameIndex := 286, descriptorIndex := 25, attributes := #[] }, { accessFlags := 25, nameIndex := 288, descriptorIndex := 25, attributes := #[] }, { accessFlags := 25, nameIndex := 290, descriptorIndex := 25, attributes := #[] }, { accessFlags := 25, nameIndex := 292, descriptorIndex := 25, attributes := #[] }, { accessFlags := 26, nameIndex := 108, descriptorIndex := 109, attributes := #[] }, { accessFlags := 25, nameIndex := 294, descriptorIndex := 25, attributes := #[] }])
  fields := #[{ name := "U", type := (.object "jdk/internal/misc/Unsafe"), accessFlags := 24, slot := 0, constantValue := 0 }, { name := "BIG_ENDIAN", type := .boolean, accessFlags := 26, slot := 1, constantValue := 0 }, { name := "LOG2_ARRAY_BOOLEAN_INDEX_SCALE", type := .int, accessFlags := 25, slot := 2, constantValue := 0 }, { name := "LOG2_ARRAY_BYTE_INDEX_SCALE", type := .int, accessFlags := 25, slot := 3, constantValue := 0 }, { name := "LOG2_ARRAY_CHAR_INDEX_SCALE", type := .int, accessFlags := 25, slot := 4, constantValue := 0 }, { name := "LOG2_ARRAY_SHORT_INDEX_SCALE", type := .int, accessFlags := 25, slot := 5, constantValue := 0 }, { name := "LOG2_ARRAY_INT_INDEX_SCALE", type := .int, accessFlags := 25, slot := 6, constantValue := 0 }, { name := "LOG2_ARRAY_LONG_INDEX_SCALE", type := .int, accessFlags := 25, slot := 7, constantValue := 0 }, { name := "LOG2_ARRAY_FLOAT_INDEX_SCALE", type := .int, accessFlags := 25, slot := 8, constantValue := 0 }, { name := "LOG2_ARRAY_DOUBLE_INDEX_SCALE", type := .int, accessFlags := 25, slot := 9, constantValue := 0 }, { name := "LOG2_BYTE_BIT_SIZE", type := .int, accessFlags := 26, slot := 10, constantValue := 0 }, { name := "T_BOOLEAN", type := .int, accessFlags := 25, slot := 11, constantValue := 0 }, { name := "T_CHAR", type := .int, accessFlags := 25, slot := 12, constantValue := 0 }, { name := "T_FLOAT", type := .int, accessFlags := 25, slot := 13, constantValue := 0 }, { name := "T_DOUBLE", type := .int, accessFlags := 25, slot := 14, constantValue := 0 }, { name := "T_BYTE", type := .int, accessFlags := 25, slot := 15, constantValue := 0 }, { name := "T_SHORT", type := .int, accessFlags := 25, slot := 16, constantValue := 0 }, { name := "T_INT", type := .int, accessFlags := 25, slot := 17, constantValue := 0 }, { name := "T_LONG", type := .int, accessFlags := 25, slot := 18, constantValue := 0 }, { name := "JLA", type := (.object "jdk/internal/access/JavaLangAccess"), accessFlags := 26, slot := 19, constantValue := 0 }, { name := "SOFT_MAX_ARRAY_LENGTH", type := .int, accessFlags := 25, slot := 20, constantValue := 0 }]
  methods := #[k15m0]
  instanceTypes := #[]
  staticTypes := #[(.object "jdk/internal/misc/Unsafe"), .boolean, .int, .int, .int, .int, .int, .int, .int, .int, .int, .int, .int, .int, .int, .int, .int, .int, .int, (.object "jdk/internal/access/JavaLangAccess"), .int]
  resolved := Array.replicate 378 none
  statics := none }

def pool16 : Array CpInfo := pool [(1, u "java/lang/Cloneable"), (0, .class_ 1), (0, u "java/lang/Object"), (0, .class_ 3)] 3

/-- java/lang/Cloneable -/
def k16 : Class := { plain "java/lang/Cloneable" (some 0) with
  accessFlags := 1537
  interfaces := #[]
  cf := some (fileOf pool16 2 #[] #[] 1537 4 #[] #[])
  fields := #[]
  methods := #[]
  instanceTypes := #[]
  staticTypes := #[]
  resolved := Array.replicate 8 none
  statics := none }

/-- the primitive byte -/
def k17 : Class := { plain "byte" none with kind := .primitive 'B', accessFlags := 0x411 }
/-- [B -/
def k18 : Class := { plain "[B" (some 0) with kind := .array 17 .byte, interfaces := #[16, 2], accessFlags := 1041 }

/-- the primitive char -/
def k19 : Class := { plain "char" none with kind := .primitive 'C', accessFlags := 0x411 }
/-- [C -/
def k20 : Class := { plain "[C" (some 0) with kind := .array 19 .char, interfaces := #[16, 2], accessFlags := 1041 }

/-- the primitive int -/
def k21 : Class := { plain "int" none with kind := .primitive 'I', accessFlags := 0x411 }
/-- [I -/
def k22 : Class := { plain "[I" (some 0) with kind := .array 21 .int, interfaces := #[16, 2], accessFlags := 1041 }

def heap : Heap := #[{ cls := 7, slots := #[.long 0, .int 1, .null, .int 0, .null, .int 0, .int 0], vm := .statics 7 },
  { cls := 8, slots := #[.int 0, .int 8, .int 0, .int 1], vm := .statics 8 },
  { cls := 10, slots := #[.ref 4, .ref 5, .ref 6, .ref 7, .ref 8, .ref 9, .ref 10, .null], vm := .statics 10 },
  { cls := 14, slots := #[.null, .null, .null], vm := .statics 14 },
  { cls := 10, slots := #[.null, .int 0, .int 0], vm := .none },
  { cls := 10, slots := #[.null, .int 1, .int 0], vm := .none },
  { cls := 10, slots := #[.null, .int 2, .int 0], vm := .none },
  { cls := 10, slots := #[.null, .int 3, .int 0], vm := .none },
  { cls := 10, slots := #[.null, .int 4, .int 0], vm := .none },
  { cls := 10, slots := #[.null, .int 5, .int 0], vm := .none },
  { cls := 10, slots := #[.null, .int 6, .int 0], vm := .none }]
def classes : Array Class := #[k0, k1, k2, k3, k4, k5, k6, k7, k8, k9, k10, k11, k12, k13, k14, k15, k16, k17, k18, k19, k20, k21, k22]
def interned : List (Array UInt16 × Addr) := []
def slotsUsed : Nat := 43
def theMethod : MethodId := ⟨1, 1⟩
def args0 : Array Value := #[.int 1, .int 2, .int 3, .long 65]
def aboutOver (below : List Frame) : State where
  vm := { classes := classes, interned := interned.toArray }
  heap := heap
  slotsUsed := slotsUsed
  threads := #[{ frames := .invoking theMethod args0 :: below }]
def below0 : List Frame := [.native { method := ⟨0, 0⟩, args := #[] }]
def about1 : State := aboutOver below0
def p0 : Program := .bare "" "" ""
def e0 : Env := launch0.env 0 0 0
theorem w_frames : about1.frames = Frame.invoking theMethod args0 :: below0 := rfl
set_option maxRecDepth 65536 in
theorem w_args : argsFit about1.vm theMethod args0 = true := by decide +kernel
set_option maxRecDepth 65536 in
theorem w_heap : heapFits about1 = true := by decide +kernel
set_option maxRecDepth 65536 in
theorem w_runnable : about1.curStatus? = some .runnable := by decide +kernel
set_option maxRecDepth 65536 in
theorem w_alone : about1.alone = true := by decide +kernel
set_option maxRecDepth 65536 in
theorem w_named : about1.methodNamed? x = some theMethod := by decide +kernel
set_option maxRecDepth 65536 in
theorem w_hears : about1.hears theMethod below0 = true := by decide +kernel
set_option maxRecDepth 65536 in
theorem w_ripe : about1.ripe theMethod args0 below0 = true := by decide +kernel
theorem w_running : about1.status = .running := rfl
set_option maxRecDepth 65536 in
theorem w_room : about1.hasRoom e0.platform room_1 = true :=
  launch0.hasRoom_least _ room_1 (by decide +kernel) (by decide +kernel) (by decide +kernel) (by decide +kernel) (by decide +kernel) (by decide +kernel)
theorem allAtoms_all (ts : List Jvm.Cond) (a : Array Jvm.Value) (st : Jvm.State) : (allAtoms ts).before a st = ts.all (fun c => c.before a st) := by
  induction ts with
  | nil => rfl
  | cons c t ih =>
    show (Jvm.Cond.and c (allAtoms t)).before a st = _
    rw [Jvm.Cond.before_and, ih, List.all_cons]
def words1 : List Jvm.Cond := Jvm.Cond.code x code maxLocals ret :: tables_1
/-- a 'code' word, met by the world's own term for the bytes: nothing is compared byte by byte -/
theorem code_word {y : MethodName} {bytes : ByteArray} {mx : Nat} {rt : Option FieldType} {a : Array Value} {s : State} {m : MethodId} {meth : Method} {c : Code} (h1 : s.methodNamed? y = some m) (h2 : s.vm.method? m = some meth) (h3 : meth.code = some c) (h4 : c.code = bytes)
    (h5 : (c.maxLocals == mx && c.exceptionTable.isEmpty && decide (c.maxStack ≤ mostOperands) && decide (meth.sig.returnType = rt) && !meth.locks && decide (parseMethodDescriptor y.desc = some meth.sig)) = true) : (Jvm.Cond.code y bytes mx rt).before a s = true := by
  simp only [Bool.and_eq_true, beq_iff_eq, Bool.not_eq_true', decide_eq_true_eq] at h5
  obtain ⟨⟨⟨⟨⟨g1, g2⟩, g3⟩, g4⟩, g5⟩, g6⟩ := h5
  simp [Cond.before, Cond.holds, Cond.value, h1, h2, h3, h4, g1, g2, g3, g4, g5, g6]
def isCode : Jvm.Cond → Bool
  | .code _ _ _ _ => true
  | _ => false
theorem all_split {L : List Jvm.Cond} {P : Jvm.Cond → Bool} (h1 : L.all (fun c => isCode c || P c) = true) (h2 : ∀ c ∈ L.filter isCode, P c = true) : L.all P = true := by
  refine List.all_eq_true.mpr fun c hc => ?_
  have h := List.all_eq_true.mp h1 c hc
  rcases Bool.eq_false_or_eq_true (isCode c) with hi | hi
  · exact h2 c (List.mem_filter.mpr ⟨hc, hi⟩)
  · simpa [hi] using h
set_option maxRecDepth 65536 in
theorem w_c0 : (Jvm.Cond.code x code maxLocals ret).before args0 about1 = true := code_word (m := ⟨1, 1⟩) (meth := k1m1) (c := k1c1) (by decide +kernel) rfl rfl rfl (by decide +kernel)
set_option maxRecDepth 65536 in
theorem w_c1 : (Jvm.Cond.code ({ cls := "com/example/apq/apq/jpql/TokenEndPinLaw", name := "makeText", desc := "(ICCCC)Ljava/lang/String;" } : Jvm.MethodName) method_3_code (5 : Nat) (Option.some (Jvm.ClassFile.FieldType.object "java/lang/String"))).before args0 about1 = true := code_word (m := ⟨1, 2⟩) (meth := k1m2) (c := k1c2) (by decide +kernel) rfl rfl rfl (by decide +kernel)
set_option maxRecDepth 65536 in
theorem w_c2 : (Jvm.Cond.code ({ cls := "java/lang/String", name := "<init>", desc := "([C)V" } : Jvm.MethodName) jdk_42_method_3_code (2 : Nat) (Option.none : Option Jvm.ClassFile.FieldType)).before args0 about1 = true := code_word (m := ⟨7, 1⟩) (meth := k7m1) (c := k7c1) (by decide +kernel) rfl rfl rfl (by decide +kernel)
set_option maxRecDepth 65536 in
theorem w_c3 : (Jvm.Cond.code ({ cls := "java/lang/String", name := "<init>", desc := "([CIILjava/lang/Void;)V" } : Jvm.MethodName) jdk_42_method_149_code (6 : Nat) (Option.none : Option Jvm.ClassFile.FieldType)).before args0 about1 = true := code_word (m := ⟨7, 3⟩) (meth := k7m3) (c := k7c3) (by decide +kernel) rfl rfl rfl (by decide +kernel)
set_option maxRecDepth 65536 in
theorem w_c4 : (Jvm.Cond.code ({ cls := "java/lang/Object", name := "<init>", desc := "()V" } : Jvm.MethodName) object_method_1_code (1 : Nat) (Option.none : Option Jvm.ClassFile.FieldType)).before args0 about1 = true := code_word (m := ⟨0, 0⟩) (meth := k0m0) (c := k0c0) (by decide +kernel) rfl rfl rfl (by decide +kernel)
set_option maxRecDepth 65536 in
theorem w_c5 : (Jvm.Cond.code ({ cls := "java/lang/StringUTF16", name := "compress", desc := "([CII)[B" } : Jvm.MethodName) jdk_52_method_16_code (6 : Nat) (Option.some (Jvm.ClassFile.FieldType.array Jvm.ClassFile.FieldType.byte))).before args0 about1 = true := code_word (m := ⟨8, 7⟩) (meth := k8m7) (c := k8c7) (by decide +kernel) rfl rfl rfl (by decide +kernel)
set_option maxRecDepth 65536 in
theorem w_c6 : (Jvm.Cond.code ({ cls := "java/lang/StringUTF16", name := "compress", desc := "([CI[BII)I" } : Jvm.MethodName) jdk_52_method_21_code (7 : Nat) (Option.some Jvm.ClassFile.FieldType.int)).before args0 about1 = true := code_word (m := ⟨8, 8⟩) (meth := k8m8) (c := k8c8) (by decide +kernel) rfl rfl rfl (by decide +kernel)
set_option maxRecDepth 65536 in
theorem w_c7 : (Jvm.Cond.code ({ cls := "java/lang/StringUTF16", name := "toBytes", desc := "([CII)[B" } : Jvm.MethodName) jdk_52_method_14_code (5 : Nat) (Option.some (Jvm.ClassFile.FieldType.array Jvm.ClassFile.FieldType.byte))).before args0 about1 = true := code_word (m := ⟨8, 5⟩) (meth := k8m5) (c := k8c5) (by decide +kernel) rfl rfl rfl (by decide +kernel)
set_option maxRecDepth 65536 in
theorem w_c8 : (Jvm.Cond.code ({ cls := "java/lang/StringUTF16", name := "newBytesFor", desc := "(I)[B" } : Jvm.MethodName) jdk_52_method_2_code (1 : Nat) (Option.some (Jvm.ClassFile.FieldType.array Jvm.ClassFile.FieldType.byte))).before args0 about1 = true := code_word (m := ⟨8, 1⟩) (meth := k8m1) (c := k8c1) (by decide +kernel) rfl rfl rfl (by decide +kernel)
set_option maxRecDepth 65536 in
theorem w_c9 : (Jvm.Cond.code ({ cls := "java/lang/StringUTF16", name := "newBytesLength", desc := "(I)I" } : Jvm.MethodName) jdk_52_method_3_code (1 : Nat) (Option.some Jvm.ClassFile.FieldType.int)).before args0 about1 = true := code_word (m := ⟨8, 2⟩) (meth := k8m2) (c := k8c2) (by decide +kernel) rfl rfl rfl (by decide +kernel)
set_option maxRecDepth 65536 in
theorem w_c10 : (Jvm.Cond.code ({ cls := "java/lang/StringUTF16", name := "putChar", desc := "([BII)V" } : Jvm.MethodName) jdk_52_method_4_code (3 : Nat) (Option.none : Option Jvm.ClassFile.FieldType)).before args0 about1 = true := code_word (m := ⟨8, 3⟩) (meth := k8m3) (c := k8c3) (by decide +kernel) rfl rfl rfl (by decide +kernel)
set_option maxRecDepth 65536 in
theorem w_c11 : (Jvm.Cond.code ({ cls := "java/lang/StringUTF16", name := "getChar", desc := "([BI)C" } : Jvm.MethodName) jdk_52_method_5_code (2 : Nat) (Option.some Jvm.ClassFile.FieldType.char)).before args0 about1 = true := code_word (m := ⟨8, 4⟩) (meth := k8m4) (c := k8c4) (by decide +kernel) rfl rfl rfl (by decide +kernel)
set_option maxRecDepth 65536 in
theorem w_c12 : (Jvm.Cond.code ({ cls := "java/lang/StringUTF16", name := "coderFromArrayLen", desc := "([BI)B" } : Jvm.MethodName) jdk_52_method_15_code (2 : Nat) (Option.some Jvm.ClassFile.FieldType.byte)).before args0 about1 = true := code_word (m := ⟨8, 6⟩) (meth := k8m6) (c := k8c6) (by decide +kernel) rfl rfl rfl (by decide +kernel)
set_option maxRecDepth 65536 in
theorem w_c13 : (Jvm.Cond.code ({ cls := "com/example/apq/apq/jpql/TokenEndPinLaw", name := "pickKind", desc := "(I)Lcom/example/apq/apq/jpql/Token$Kind;" } : Jvm.MethodName) method_4_code (1 : Nat) (Option.some (Jvm.ClassFile.FieldType.object "com/example/apq/apq/jpql/Token$Kind"))).before args0 about1 = true := code_word (m := ⟨1, 3⟩) (meth := k1m3) (c := k1c3) (by decide +kernel) rfl rfl rfl (by decide +kernel)
set_option maxRecDepth 65536 in
theorem w_c14 : (Jvm.Cond.code ({ cls := "com/example/apq/apq/jpql/Token", name := "<init>", desc := "(Lcom/example/apq/apq/jpql/Token$Kind;Ljava/lang/String;I)V" } : Jvm.MethodName) prog_97_method_1_code (4 : Nat) (Option.none : Option Jvm.ClassFile.FieldType)).before args0 about1 = true := code_word (m := ⟨12, 0⟩) (meth := k12m0) (c := k12c0) (by decide +kernel) rfl rfl rfl (by decide +kernel)
set_option maxRecDepth 65536 in
theorem w_c15 : (Jvm.Cond.code ({ cls := "java/lang/Record", name := "<init>", desc := "()V" } : Jvm.MethodName) jdk_30_method_1_code (1 : Nat) (Option.none : Option Jvm.ClassFile.FieldType)).before args0 about1 = true := code_word (m := ⟨11, 0⟩) (meth := k11m0) (c := k11c0) (by decide +kernel) rfl rfl rfl (by decide +kernel)
set_option maxRecDepth 65536 in
theorem w_c16 : (Jvm.Cond.code ({ cls := "com/example/apq/apq/jpql/Token", name := "end", desc := "()I" } : Jvm.MethodName) prog_97_method_2_code (1 : Nat) (Option.some Jvm.ClassFile.FieldType.int)).before args0 about1 = true := code_word (m := ⟨12, 1⟩) (meth := k12m1) (c := k12c1) (by decide +kernel) rfl rfl rfl (by decide +kernel)
set_option maxRecDepth 65536 in
theorem w_c17 : (Jvm.Cond.code ({ cls := "java/lang/String", name := "length", desc := "()I" } : Jvm.MethodName) jdk_42_method_54_code (1 : Nat) (Option.some Jvm.ClassFile.FieldType.int)).before args0 about1 = true := code_word (m := ⟨7, 2⟩) (meth := k7m2) (c := k7c2) (by decide +kernel) rfl rfl rfl (by decide +kernel)
set_option maxRecDepth 65536 in
theorem w_c18 : (Jvm.Cond.code ({ cls := "java/lang/String", name := "coder", desc := "()B" } : Jvm.MethodName) jdk_42_method_152_code (1 : Nat) (Option.some Jvm.ClassFile.FieldType.byte)).before args0 about1 = true := code_word (m := ⟨7, 4⟩) (meth := k7m4) (c := k7c4) (by decide +kernel) rfl rfl rfl (by decide +kernel)
def codes1 : List Jvm.Cond := [Jvm.Cond.code x code maxLocals ret, Jvm.Cond.code ({ cls := "com/example/apq/apq/jpql/TokenEndPinLaw", name := "makeText", desc := "(ICCCC)Ljava/lang/String;" } : Jvm.MethodName) method_3_code (5 : Nat) (Option.some (Jvm.ClassFile.FieldType.object "java/lang/String")), Jvm.Cond.code ({ cls := "java/lang/String", name := "<init>", desc := "([C)V" } : Jvm.MethodName) jdk_42_method_3_code (2 : Nat) (Option.none : Option Jvm.ClassFile.FieldType), Jvm.Cond.code ({ cls := "java/lang/String", name := "<init>", desc := "([CIILjava/lang/Void;)V" } : Jvm.MethodName) jdk_42_method_149_code (6 : Nat) (Option.none : Option Jvm.ClassFile.FieldType), Jvm.Cond.code ({ cls := "java/lang/Object", name := "<init>", desc := "()V" } : Jvm.MethodName) object_method_1_code (1 : Nat) (Option.none : Option Jvm.ClassFile.FieldType), Jvm.Cond.code ({ cls := "java/lang/StringUTF16", name := "compress", desc := "([CII)[B" } : Jvm.MethodName) jdk_52_method_16_code (6 : Nat) (Option.some (Jvm.ClassFile.FieldType.array Jvm.ClassFile.FieldType.byte)), Jvm.Cond.code ({ cls := "java/lang/StringUTF16", name := "compress", desc := "([CI[BII)I" } : Jvm.MethodName) jdk_52_method_21_code (7 : Nat) (Option.some Jvm.ClassFile.FieldType.int), Jvm.Cond.code ({ cls := "java/lang/StringUTF16", name := "toBytes", desc := "([CII)[B" } : Jvm.MethodName) jdk_52_method_14_code (5 : Nat) (Option.some (Jvm.ClassFile.FieldType.array Jvm.ClassFile.FieldType.byte)), Jvm.Cond.code ({ cls := "java/lang/StringUTF16", name := "newBytesFor", desc := "(I)[B" } : Jvm.MethodName) jdk_52_method_2_code (1 : Nat) (Option.some (Jvm.ClassFile.FieldType.array Jvm.ClassFile.FieldType.byte)), Jvm.Cond.code ({ cls := "java/lang/StringUTF16", name := "newBytesLength", desc := "(I)I" } : Jvm.MethodName) jdk_52_method_3_code (1 : Nat) (Option.some Jvm.ClassFile.FieldType.int), Jvm.Cond.code ({ cls := "java/lang/StringUTF16", name := "putChar", desc := "([BII)V" } : Jvm.MethodName) jdk_52_method_4_code (3 : Nat) (Option.none : Option Jvm.ClassFile.FieldType), Jvm.Cond.code ({ cls := "java/lang/StringUTF16", name := "getChar", desc := "([BI)C" } : Jvm.MethodName) jdk_52_method_5_code (2 : Nat) (Option.some Jvm.ClassFile.FieldType.char), Jvm.Cond.code ({ cls := "java/lang/StringUTF16", name := "coderFromArrayLen", desc := "([BI)B" } : Jvm.MethodName) jdk_52_method_15_code (2 : Nat) (Option.some Jvm.ClassFile.FieldType.byte), Jvm.Cond.code ({ cls := "com/example/apq/apq/jpql/TokenEndPinLaw", name := "pickKind", desc := "(I)Lcom/example/apq/apq/jpql/Token$Kind;" } : Jvm.MethodName) method_4_code (1 : Nat) (Option.some (Jvm.ClassFile.FieldType.object "com/example/apq/apq/jpql/Token$Kind")), Jvm.Cond.code ({ cls := "com/example/apq/apq/jpql/Token", name := "<init>", desc := "(Lcom/example/apq/apq/jpql/Token$Kind;Ljava/lang/String;I)V" } : Jvm.MethodName) prog_97_method_1_code (4 : Nat) (Option.none : Option Jvm.ClassFile.FieldType), Jvm.Cond.code ({ cls := "java/lang/Record", name := "<init>", desc := "()V" } : Jvm.MethodName) jdk_30_method_1_code (1 : Nat) (Option.none : Option Jvm.ClassFile.FieldType), Jvm.Cond.code ({ cls := "com/example/apq/apq/jpql/Token", name := "end", desc := "()I" } : Jvm.MethodName) prog_97_method_2_code (1 : Nat) (Option.some Jvm.ClassFile.FieldType.int), Jvm.Cond.code ({ cls := "java/lang/String", name := "length", desc := "()I" } : Jvm.MethodName) jdk_42_method_54_code (1 : Nat) (Option.some Jvm.ClassFile.FieldType.int), Jvm.Cond.code ({ cls := "java/lang/String", name := "coder", desc := "()B" } : Jvm.MethodName) jdk_42_method_152_code (1 : Nat) (Option.some Jvm.ClassFile.FieldType.byte)]
set_option maxRecDepth 65536 in
theorem codes_eq : words1.filter isCode = codes1 := rfl
theorem w_codes : ∀ c ∈ words1.filter isCode, c.before args0 about1 = true := by
  rw [codes_eq]
  intro c hc
  simp only [codes1, List.mem_cons, List.not_mem_nil, or_false] at hc
  rcases hc with rfl | rfl | rfl | rfl | rfl | rfl | rfl | rfl | rfl | rfl | rfl | rfl | rfl | rfl | rfl | rfl | rfl | rfl | rfl
  · exact w_c0
  · exact w_c1
  · exact w_c2
  · exact w_c3
  · exact w_c4
  · exact w_c5
  · exact w_c6
  · exact w_c7
  · exact w_c8
  · exact w_c9
  · exact w_c10
  · exact w_c11
  · exact w_c12
  · exact w_c13
  · exact w_c14
  · exact w_c15
  · exact w_c16
  · exact w_c17
  · exact w_c18
set_option maxRecDepth 65536 in
theorem w_t1 : (words1.take 24).all (fun c => isCode c || c.before args0 about1) = true := by decide +kernel
set_option maxRecDepth 65536 in
theorem w_t2 : ((words1.drop 24).take 24).all (fun c => isCode c || c.before args0 about1) = true := by decide +kernel
set_option maxRecDepth 65536 in
theorem w_t3 : (((words1.drop 24).drop 24).take 24).all (fun c => isCode c || c.before args0 about1) = true := by decide +kernel
set_option maxRecDepth 65536 in
theorem w_t4 : ((((words1.drop 24).drop 24).drop 24).take 24).all (fun c => isCode c || c.before args0 about1) = true := by decide +kernel
set_option maxRecDepth 65536 in
theorem w_t5 : ((((words1.drop 24).drop 24).drop 24).drop 24).all (fun c => isCode c || c.before args0 about1) = true := by decide +kernel
theorem w_tables : (allAtoms (Jvm.Cond.code x code maxLocals ret :: tables_1)).before args0 about1 = true := by
  rw [allAtoms_all]
  show words1.all (fun c => c.before args0 about1) = true
  refine all_split ?_ w_codes
  rw [← List.take_append_drop 24 words1, List.all_append, w_t1, ← List.take_append_drop 24 (words1.drop 24), List.all_append, w_t2, ← List.take_append_drop 24 ((words1.drop 24).drop 24), List.all_append, w_t3, ← List.take_append_drop 24 (((words1.drop 24).drop 24).drop 24), List.all_append, w_t4, w_t5]
  rfl
set_option maxRecDepth 65536 in
theorem w_rest : rest_1_c.before args0 about1 = true := by decide +kernel
set_option maxRecDepth 65536 in
theorem w_case : (Jvm.Cond.and given_1 narrow_1).before args0 about1 = true := by decide +kernel
set_option maxRecDepth 65536 in
theorem w_consts : constsHeld consts_1 about1 := Jvm.Lit.constsHeldB_iff.mp (by decide +kernel)
theorem w_applies : (headSpec (Jvm.Cond.code x code maxLocals ret :: tables_1) room_1).applies x e0.platform about1 = true :=
  (Spec.applies_iff w_frames).mpr ⟨w_running, w_runnable, w_alone, w_named, w_hears, w_ripe, w_room, w_tables⟩
theorem atStart : AtStart classFile x code maxLocals ret World_1 tables_1 room_1 Calls_1 rest_1 Pre_1 launch0 p0 e0 about1 theMethod args0 below0 :=
  ⟨lists_1, trivial, launch0.admits_env _ _ _, launch0.least_env, fairChoices_fair.cas, fairChoices_fair.clock, w_frames, w_args, w_heap, w_applies, ⟨w_consts, trivial⟩, w_rest, w_case⟩
end start1
theorem witness_1 : WitnessClaimed_1 := ⟨start1.p0, start1.e0, start1.about1, start1.theMethod, start1.args0, start1.below0, start1.atStart⟩
end Jvm.Pilot.@@N@@
