import JvmDerived
import JvmDerived.Pilot.@@N@@Statement
import JvmDerived.Pilot.@@N@@Code
set_option linter.unusedVariables false
set_option linter.unusedSimpArgs false
set_option maxRecDepth 65536
set_option maxHeartbeats 40000000
namespace Jvm.RoadKit
open Sem ClassFile Op Lib Jvm.Stand Jvm.Free Jvm.LawKit
section New
variable {p : Program} {l : Launch} {e : Env} {R : Room} {s : State} {m : MethodId} {args : Array Value} {below : List Frame} {meth : Method} {c : Code} {T : State} {locs : List Loc} {cells slots : Nat}
theorem retI (X : Stand p l e R s m args below meth c T locs cells slots) (hx : p.tables.exec = Jvm.exec) {pc : Nat} {Ls : Array Slot} {z : Int32} {rest : List Value} (hret : meth.sig.returnType = some .int) (hd : decode c.code pc = .ok (.ireturn, 1)) {fs : List Frame}
    (hl : ∀ (f : JFrame) (acts : List Action), f.method = m → f.locked = none → f.entered = [] → (doReturn e (T.setTop f) acts (some (.int z))).1 = T.setFrames fs) : Steps p.tables e below (T.setTop (mkF m pc Ls (.int z :: rest))) (T.setFrames fs) := by
  have hm' : T.vm.method? m = some meth := X.method'
  have hn : narrow .int (.int z) = .int z := rfl
  show Steps p.tables e below (T.setTop { method := m, pc := pc, locals := Ls, stack := _ :: rest, locked := none }) _
  jvm_step X.here [X.here.top, hx, hd, hm', hret, hn]
  first | (intro acts; rw [hl _ acts rfl rfl rfl]) | rw [hl _ _ rfl rfl rfl]
  exact Steps.refl _
end New
end Jvm.RoadKit
namespace Jvm.Pilot.@@N@@
open Jvm Jvm.ClassFile Sem Op Lib Jvm.Free Jvm.Stand Jvm.LawKit Jvm.RoadKit Bundle Jvm.Pilot.@@N@@.Jvm.D
def own_QP (r : Option Value) (h0 : Heap) (n0 : Nat) (v : Option Value) (h : Heap) (L : List Loc) : Prop := v = r ∧ Fr n0 L ∧ h = h0
def own_Q0 (n0 : Nat) (v : Option Value) (h : Heap) (L : List Loc) : Prop := v = some (.int 1) ∧ Fr n0 L
section OwnWords
variable {args : Array Value} {s : State}
theorem own_eqI {t : Term} {k : Int32} (h : (Jvm.Cond.eq t (.int k)).value args s none s [] = some true) : t.eval args s none [] s = some (.int k) := by
  obtain ⟨x, y, h1, h2, h3, h4⟩ := cmp_v (Or.inl h)
  obtain rfl : y = .int k := (Option.some.inj h2).symm
  obtain ⟨z, rfl⟩ := h4
  have q := gotT (Cond.eq_ints h1 h2) h
  rw [h1, q]
theorem own_eqR {t u : Term} {b : Addr} (h : (Jvm.Cond.eq t u).value args s none s [] = some true) (hu : u.eval args s none [] s = some (.ref b)) : t.eval args s none [] s = some (.ref b) := by
  obtain ⟨x, y, h1, h2, h3, h4⟩ := cmp_v (Or.inl h)
  obtain rfl : y = .ref b := Option.some.inj (h2.symm.trans hu)
  have q := gotT (eq_R h1 h2 h4.2 h4.1) h
  rw [h1, q]
theorem own_fld {t : Term} {C n d : String} {a : Addr} {v : Value} (ht : t.eval args s none [] s = some (.ref a)) (h : (Term.field t C n d).eval args s none [] s = some v) : Fld s s.heap a C n d v := Fld.start ((fld_at ht).symm.trans h)
end OwnWords
theorem own_staKeep {Z : State} {h h' : Heap} {C n d : String} {v : Value} {ws : List Addr} (F : Sta Z h C n d v) (K : Keep h h' ws) (q : ∀ x ∈ ws, ∀ cell : Cell, h[x]? = some cell → cell.vm.isStatics = false) : Sta Z h' C n d v := by
  obtain ⟨cf, i, k, f, st, cell, h1, h2, h3, h4, h5, h6, h7⟩ := F
  refine ⟨cf, i, k, f, st, cell, h1, h2, h3, h4, K.2.1 st cell h5 (fun z => ?_), h6, h7⟩
  rw [q st z cell h5] at h6; cases h6
abbrev own_MF (l : Launch) (y : MethodName) (k : Jvm.Cond) (ws : List Jvm.Cond) (R : Room) (A : Array Value) (Z : State) (h0 : Heap) (Q : Option Value → Heap → List Loc → Prop) : Prop := MetFree l y (head1 (k :: ws) R) (fun a U => a = A ∧ Z.Warmed39 U.vm ∧ U.heap = h0) (fun _ _ _ _ _ => True) (fun _ U o U' => ∃ v L, o = .returned v ∧ Q v U'.heap L ∧ FrameEnd U o U' L R.cells R.slots)
theorem own_g {P : Jvm.Cond → Prop} (hw : ∀ d ∈ tables_1, P d) (i : Nat) {d : Jvm.Cond} (h : tables_1[i]? = some d) : P d := hw d (List.mem_of_getElem? h)
abbrev own_y0 : MethodName := ⟨"java/lang/String", "coder", "()B"⟩
abbrev own_y1 : MethodName := ⟨"java/lang/String", "isLatin1", "()Z"⟩
abbrev own_y2 : MethodName := ⟨"java/lang/String", "length", "()I"⟩
abbrev own_y3 : MethodName := ⟨"java/lang/Math", "max", "(II)I"⟩
abbrev own_y4 : MethodName := ⟨"java/lang/Math", "min", "(II)I"⟩
abbrev own_y5 : MethodName := ⟨"java/util/Arrays", "checkLength", "(II)V"⟩
abbrev own_y6 : MethodName := ⟨"jdk/internal/util/Preconditions", "checkIndex", "(IILjava/util/function/BiFunction;)I"⟩
abbrev own_y7 : MethodName := ⟨"java/lang/String", "checkIndex", "(II)V"⟩
abbrev own_y8 : MethodName := ⟨"java/lang/StringLatin1", "charAt", "([BI)C"⟩
abbrev own_y9 : MethodName := ⟨"java/lang/String", "charAt", "(I)C"⟩
abbrev own_y10 : MethodName := ⟨"java/util/Arrays", "copyOfRangeByte", "([BII)[B"⟩
abbrev own_y11 : MethodName := ⟨"java/util/Arrays", "copyOfRange", "([BII)[B"⟩
abbrev own_y12 : MethodName := ⟨"java/lang/AbstractStringBuilder", "<init>", "(I)V"⟩
abbrev own_y13 : MethodName := ⟨"java/lang/StringBuilder", "<init>", "()V"⟩
abbrev own_y14 : MethodName := ⟨"java/lang/AbstractStringBuilder", "getValue", "()[B"⟩
abbrev own_y15 : MethodName := ⟨"java/lang/AbstractStringBuilder", "length", "()I"⟩
abbrev own_y16 : MethodName := ⟨"java/lang/AbstractStringBuilder", "ensureCapacityInternal", "(I)V"⟩
abbrev own_y17 : MethodName := ⟨"java/lang/StringBuilder", "length", "()I"⟩
abbrev own_y18 : MethodName := ⟨"java/lang/AbstractStringBuilder", "isLatin1", "()Z"⟩
abbrev own_y19 : MethodName := ⟨"jdk/internal/util/ArraysSupport", "newLength", "(III)I"⟩
abbrev own_y20 : MethodName := ⟨"java/lang/AbstractStringBuilder", "newCapacity", "(I)I"⟩
abbrev own_y21 : MethodName := ⟨"java/util/Arrays", "copyOf", "([BI)[B"⟩
abbrev own_y22 : MethodName := ⟨"java/lang/AbstractStringBuilder", "inflateIfNeededFor", "(Ljava/lang/String;)V"⟩
abbrev own_y23 : MethodName := ⟨"java/lang/String", "getBytes", "([BIB)V"⟩
abbrev own_y24 : MethodName := ⟨"java/lang/AbstractStringBuilder", "putStringAt", "(ILjava/lang/String;)V"⟩
abbrev own_y25 : MethodName := ⟨"java/lang/AbstractStringBuilder", "append", "(Ljava/lang/String;)Ljava/lang/AbstractStringBuilder;"⟩
abbrev own_y26 : MethodName := ⟨"java/lang/StringBuilder", "append", "(Ljava/lang/String;)Ljava/lang/StringBuilder;"⟩
abbrev own_y27 : MethodName := ⟨"java/lang/String", "<init>", "(Ljava/lang/AbstractStringBuilder;Ljava/lang/Void;)V"⟩
abbrev own_y28 : MethodName := ⟨"java/lang/String", "<init>", "(Ljava/lang/StringBuilder;)V"⟩
abbrev own_y29 : MethodName := ⟨"java/lang/StringBuilder", "toString", "()Ljava/lang/String;"⟩
abbrev own_y30 : MethodName := ⟨"java/lang/StringUTF16", "compress", "([CI[BII)I"⟩
abbrev own_y31 : MethodName := ⟨"java/lang/StringUTF16", "compress", "([CII)[B"⟩
abbrev own_y32 : MethodName := ⟨"java/lang/StringUTF16", "coderFromArrayLen", "([BI)B"⟩
abbrev own_y33 : MethodName := ⟨"java/lang/String", "<init>", "([CIILjava/lang/Void;)V"⟩
abbrev own_y34 : MethodName := ⟨"java/lang/String", "<init>", "([C)V"⟩
abbrev own_y35 : MethodName := ⟨"java/lang/StringLatin1", "canEncode", "(C)Z"⟩
abbrev own_y36 : MethodName := ⟨"java/lang/StringLatin1", "toBytes", "(C)[B"⟩
abbrev own_y37 : MethodName := ⟨"java/lang/String", "<init>", "([BB)V"⟩
abbrev own_y38 : MethodName := ⟨"java/lang/String", "valueOf", "(C)Ljava/lang/String;"⟩
abbrev own_y39 : MethodName := ⟨"java/lang/Record", "<init>", "()V"⟩
abbrev own_y40 : MethodName := ⟨"com/example/fastpath/fastpath/settings/RedisServer", "<init>", "(ZLjava/lang/String;ILjava/lang/String;Ljava/lang/String;I)V"⟩
abbrev own_y41 : MethodName := ⟨"java/lang/Integer", "stringSize", "(I)I"⟩
abbrev own_y42 : MethodName := ⟨"java/lang/Integer", "getChars", "(II[B)I"⟩
abbrev own_y43 : MethodName := ⟨"java/lang/AbstractStringBuilder", "append", "(I)Ljava/lang/AbstractStringBuilder;"⟩
abbrev own_y44 : MethodName := ⟨"java/lang/StringBuilder", "append", "(I)Ljava/lang/StringBuilder;"⟩
abbrev own_y45 : MethodName := ⟨"com/example/fastpath/fastpath/settings/RedisServer", "toString", "()Ljava/lang/String;"⟩
abbrev own_y46 : MethodName := ⟨"com/example/fastpath/fastpath/settings/RedisServerToStringPinLaw", "lit", "(Ljava/lang/String;IC)I"⟩
abbrev own_y47 : MethodName := ⟨"com/example/fastpath/fastpath/settings/RedisServerToStringPinLaw", "dig", "(Ljava/lang/String;IIII[J)Z"⟩
abbrev own_y48 : MethodName := ⟨"com/example/fastpath/fastpath/settings/RedisServerToStringPinLaw", "num", "(Ljava/lang/String;II)I"⟩
abbrev own_V (p : Program) (e : Env) (below : List Frame) (S T : State) (g : JFrame) : Prop := ∀ t, Steps p.tables e below (T.setTop g) t → Steps p.tables e below S t
abbrev own_W (a0 : Array Value) (Z : State) : Prop := ∀ d ∈ tables_1, d.before a0 Z = true
abbrev own_tab (B : ByteArray) (T : List (Nat × Instr × Nat)) : Prop := ∀ x ∈ T, decode B x.1 = .ok (x.2.1, x.2.2)
theorem oD {c : Code} {B : ByteArray} {T : List (Nat × Instr × Nat)} (h : c.code = B) (D : own_tab B T) (k : Nat) {pc n : Nat} {i : Instr} (q : T[k]? = some (pc, i, n)) : decode c.code pc = .ok (i, n) := hb h (D (pc, i, n) (List.mem_of_getElem? q))
theorem oG {P : Jvm.Cond → Prop} (hw : ∀ d ∈ tables_1, P d) (i : Nat) {d : Jvm.Cond} (h : tables_1[i]? = some d) : P d := hw d (List.mem_of_getElem? h)
theorem own_ww {a b : Nat} (h : a = b) : 2 * 0 + a ≤ b := by omega
theorem own_enter {l : Launch} {y : MethodName} {B : ByteArray} {ML : Nat} {ret : Option FieldType} {ws : List Jvm.Cond} {R : Room} {A : Array Value} {Z : State} {h0 : Heap} {n0 : Nat} {Q : Option Value → Heap → List Loc → Prop} {L0 : Array Slot} {C : String} (pl : plainFor y = true) (hC : y.cls = C) (ef : ∀ m, entryFrame m A ML = mkF m 0 L0 [])
    (body : ∀ p e s m below meth c s₁, BodyLoose p l y (head1 (Jvm.Cond.code y B ML ret :: ws) R) B ML ret e s m A below meth c s₁ → p.tables.exec = Jvm.exec → c.code = B → c.maxLocals = ML → s.vm.findClass C = some m.cls → meth.name = y.name → Z.Warmed39 s.vm → s.heap = h0 → Stand p l e R s m A below meth c s₁ [] 0 0 → s₁.heap = h0 → Fr n0 [] → own_V p e below (s₁.setTop (entryFrame m A ML)) s₁ (mkF m 0 L0 []) →
      ∃ s₂ o, Steps p.tables e below (s₁.setTop (entryFrame m A ML)) s₂ ∧ s₂.status = .running ∧ Ended s₂ below o ∧ ∃ v L, o = .returned v ∧ Q v s₂.heap L ∧ FrameEnd s o s₂ L R.cells R.slots) : own_MF l y (Jvm.Cond.code y B ML ret) ws R A Z h0 Q := by
  refine MetFree.of_bodySF pl hisR ?_
  intro p e s m args below meth c s₁ Bd hml hP hK
  obtain ⟨rfl, hZ, hh⟩ := hP
  exact body p e s m below meth c s₁ Bd Bd.exec Bd.bytes hml (hC ▸ findClass_of_methodNamed Bd.named) (name_of_methodNamed Bd.named Bd.method).1 hZ hh (Stand.of_body Bd) (by rw [← hh, Bd.state]; rfl) (Fr.nil n0) (fun t k => castTop (ef m) k)
section OwnCalls
variable {p : Program} {l : Launch} {e : Env} {R : Room} {s : State} {m : MethodId} {args : Array Value} {below : List Frame} {meth : Method} {c : Code} {T : State} {locs : List Loc} {cells slots : Nat} {Z : State} {a0 : Array Value} {h : Heap}
theorem own_cS (X : Stand p l e R s m args below meth c T locs cells slots) (hx : p.tables.exec = Jvm.exec) {own : String} {index : Nat} {y : MethodName} {bytes : ByteArray} {maxL : Nat} {ret : Option FieldType} (hown : s.vm.findClass own = some m.cls) (hZ : Z.Warmed39 s.vm)
    (wl : (Jvm.Cond.methodLink own index y).before a0 Z = true) (ws : (Jvm.Cond.static y).before a0 Z = true) (wi : (Jvm.Cond.initialized y.cls).before a0 Z = true) (wc : (Jvm.Cond.code y bytes maxL ret).before a0 Z = true) (hy : y.cls ≠ "java/lang/invoke/MethodHandle" ∧ y.cls ≠ "java/lang/invoke/VarHandle")
    {rm : Room} {as' : Array Value} {Q : Option Value → Heap → List Loc → Prop} (hM : own_MF l y (Jvm.Cond.code y bytes maxL ret) [] rm as' Z h Q) {W : Nat} (hf : rm.frames + 1 ≤ R.frames) (hl : W + (maxL + 11) + rm.locals ≤ R.locals)
    {g : JFrame} (hg : g.method = m) (hsize : g.locals.size = c.maxLocals) {argsL rest : List Value} (hlen : ∀ sig, parseMethodDescriptor y.desc = some sig → argsL.length = sig.parameters.length) (hstack : g.stack = argsL.reverse ++ rest) (hW : 2 * g.monitorRoom + (rest.map fun v => v.category).sum ≤ W) (hdg : decode c.code g.pc = .ok (.invokestatic index, 3))
    (eT : T.heap = h) (has : argsL.toArray = as') (hc : cells + rm.cells ≤ R.cells) (hs : slots + rm.slots ≤ R.slots) :
    ∃ v T' L, Stand p l e R s m args below meth c T' (locs ++ L) (cells + rm.cells) (slots + rm.slots) ∧ Q v T'.heap L ∧ ∀ target, Steps p.tables e below (T'.setTop { g with pc := g.pc + 3, stack := v.toList ++ rest }) target → Steps p.tables e below (T.setTop g) target := by
  obtain ⟨v, vm₁, ⟨T', L', k', n'⟩, -, X', ⟨L, hQ, l', y', z'⟩, st⟩ := Jvm.LawKit.callS X hx hown (mvT hZ wl) (mvT hZ ws) (mvT hZ wi) (mvT hZ wc) hy (backOf (W := W) hM hZ wc wi hf hl) hg hsize hlen hstack hW hdg (fun _ _ => ⟨has, eT, hc, hs⟩)
  dsimp only [Pt.U, Pt.locs, Pt.cells, Pt.slots] at X' l' y' z' st hQ
  subst l' y' z'
  exact ⟨v, T', L, X', hQ, st⟩
theorem own_cI (X : Stand p l e R s m args below meth c T locs cells slots) (hx : p.tables.exec = Jvm.exec) {own : String} {index : Nat} {y : MethodName} {bytes : ByteArray} {maxL : Nat} (hy1 : y.name = "<init>") (hown : s.vm.findClass own = some m.cls) (hZ : Z.Warmed39 s.vm)
    (wl : (Jvm.Cond.methodLink own index y).before a0 Z = true) (wn : (Jvm.Cond.instanceMethod y).before a0 Z = true) (wi : (Jvm.Cond.initialized y.cls).before a0 Z = true) (wc : (Jvm.Cond.code y bytes maxL none).before a0 Z = true) (hy : y.cls ≠ "java/lang/invoke/MethodHandle" ∧ y.cls ≠ "java/lang/invoke/VarHandle")
    {rm : Room} {as' : Array Value} {Q : Option Value → Heap → List Loc → Prop} (hM : own_MF l y (Jvm.Cond.code y bytes maxL none) [] rm as' Z h Q) {W : Nat} (hf : rm.frames + 1 ≤ R.frames) (hl : W + (maxL + 11) + rm.locals ≤ R.locals)
    {g : JFrame} (hg : g.method = m) (hsize : g.locals.size = c.maxLocals) {a : Addr} {argsL rest : List Value} (hlen : ∀ sig, parseMethodDescriptor y.desc = some sig → argsL.length = sig.parameters.length) (hstack : g.stack = argsL.reverse ++ .ref a :: rest) (hW : 2 * g.monitorRoom + (rest.map fun v => v.category).sum ≤ W) (hdg : decode c.code g.pc = .ok (.invokespecial index, 3))
    (eT : T.heap = h) (has : (.ref a :: argsL).toArray = as') (hc : cells + rm.cells ≤ R.cells) (hs : slots + rm.slots ≤ R.slots) :
    ∃ v T' L, Stand p l e R s m args below meth c T' (locs ++ L) (cells + rm.cells) (slots + rm.slots) ∧ Q v T'.heap L ∧ ∀ target, Steps p.tables e below (T'.setTop { g with pc := g.pc + 3, stack := v.toList ++ rest }) target → Steps p.tables e below (T.setTop g) target := by
  obtain ⟨v, vm₁, ⟨T', L', k', n'⟩, -, X', ⟨L, hQ, l', y', z'⟩, st⟩ := X.specialBack hx hy1 hown (mvT hZ wl) (mvT hZ wn) (mvT hZ wc) hy (backOf (W := W) hM hZ wc wi hf hl) hg hsize (Steps.refl _) hlen hstack hW hdg (fun _ _ => ⟨has, eT, hc, hs⟩)
  dsimp only [Pt.U, Pt.locs, Pt.cells, Pt.slots] at X' l' y' z' st hQ
  subst l' y' z'
  exact ⟨v, T', L, X', hQ, fun _ k => st.trans k⟩
theorem own_cW (X : Stand p l e R s m args below meth c T locs cells slots) (hx : p.tables.exec = Jvm.exec) {own C : String} {index : Nat} {y z : MethodName} {bytes : ByteArray} {maxL : Nat} {ret : Option FieldType} (hown : s.vm.findClass own = some m.cls) (hZ : Z.Warmed39 s.vm)
    (wl : (Jvm.Cond.methodLink own index y).before a0 Z = true) (wd : (Jvm.Cond.declares y).before a0 Z = true) (hnf : NotFace s y) (wse : (Jvm.Cond.selects C y z).before a0 Z = true) (wn : (Jvm.Cond.instanceMethod z).before a0 Z = true) (wi : (Jvm.Cond.initialized z.cls).before a0 Z = true) (wc : (Jvm.Cond.code z bytes maxL ret).before a0 Z = true) (hy : y.cls ≠ "java/lang/invoke/MethodHandle" ∧ y.cls ≠ "java/lang/invoke/VarHandle")
    {rm : Room} {as' : Array Value} {Q : Option Value → Heap → List Loc → Prop} (hM : own_MF l z (Jvm.Cond.code z bytes maxL ret) [] rm as' Z h Q) {W : Nat} (hf : rm.frames + 1 ≤ R.frames) (hl : W + (maxL + 11) + rm.locals ≤ R.locals) {b : Addr} (F : Exa Z h b C)
    {g : JFrame} (hg : g.method = m) (hsize : g.locals.size = c.maxLocals) {argsL rest : List Value} (hlen : ∀ sig, parseMethodDescriptor y.desc = some sig → argsL.length = sig.parameters.length) (hstack : g.stack = argsL.reverse ++ .ref b :: rest) (hW : 2 * g.monitorRoom + (rest.map fun v => v.category).sum ≤ W) (hdg : decode c.code g.pc = .ok (.invokevirtual index, 3))
    (eT : T.heap = h) (has : (.ref b :: argsL).toArray = as') (hc : cells + rm.cells ≤ R.cells) (hs : slots + rm.slots ≤ R.slots) :
    ∃ v T' L, Stand p l e R s m args below meth c T' (locs ++ L) (cells + rm.cells) (slots + rm.slots) ∧ Q v T'.heap L ∧ ∀ target, Steps p.tables e below (T'.setTop { g with pc := g.pc + 3, stack := v.toList ++ rest }) target → Steps p.tables e below (T.setTop g) target := by
  obtain ⟨cq, kq, qa, qb, qc⟩ := isOf hZ eT F
  obtain ⟨v, vm₁, ⟨T', L', k', n'⟩, -, X', ⟨L, hQ, l', y', z'⟩, st⟩ := X.virtualBack hx hown (mvT hZ wl) (mvT hZ wd) hnf (mvT hZ wse) (mvT hZ wn) hy (backOf (W := W) hM hZ wc wi hf hl) qa qc hg hsize (Steps.refl _) hlen hstack hW hdg (fun _ _ => ⟨has, eT, hc, hs⟩)
  dsimp only [Pt.U, Pt.locs, Pt.cells, Pt.slots] at X' l' y' z' st hQ
  subst l' y' z'
  exact ⟨v, T', L, X', hQ, fun _ k => st.trans k⟩
theorem own_cV (X : Stand p l e R s m args below meth c T locs cells slots) (hx : p.tables.exec = Jvm.exec) {own C : String} {index : Nat} {y : MethodName} {bytes : ByteArray} {maxL : Nat} {ret : Option FieldType} (hown : s.vm.findClass own = some m.cls) (hZ : Z.Warmed39 s.vm)
    (wl : (Jvm.Cond.methodLink own index y).before a0 Z = true) (wd : (Jvm.Cond.declares y).before a0 Z = true) (wse : (Jvm.Cond.selects C y y).before a0 Z = true) (wn : (Jvm.Cond.instanceMethod y).before a0 Z = true) (wi : (Jvm.Cond.initialized y.cls).before a0 Z = true) (wc : (Jvm.Cond.code y bytes maxL ret).before a0 Z = true) (hy : y.cls ≠ "java/lang/invoke/MethodHandle" ∧ y.cls ≠ "java/lang/invoke/VarHandle")
    {rm : Room} {as' : Array Value} {Q : Option Value → Heap → List Loc → Prop} (hM : own_MF l y (Jvm.Cond.code y bytes maxL ret) [] rm as' Z h Q) {W : Nat} (hf : rm.frames + 1 ≤ R.frames) (hl : W + (maxL + 11) + rm.locals ≤ R.locals) {b : Addr} (F : Exa Z h b C)
    {g : JFrame} (hg : g.method = m) (hsize : g.locals.size = c.maxLocals) {argsL rest : List Value} (hlen : ∀ sig, parseMethodDescriptor y.desc = some sig → argsL.length = sig.parameters.length) (hstack : g.stack = argsL.reverse ++ .ref b :: rest) (hW : 2 * g.monitorRoom + (rest.map fun v => v.category).sum ≤ W) (hdg : decode c.code g.pc = .ok (.invokevirtual index, 3))
    (eT : T.heap = h) (has : (.ref b :: argsL).toArray = as') (hc : cells + rm.cells ≤ R.cells) (hs : slots + rm.slots ≤ R.slots) :
    ∃ v T' L, Stand p l e R s m args below meth c T' (locs ++ L) (cells + rm.cells) (slots + rm.slots) ∧ Q v T'.heap L ∧ ∀ target, Steps p.tables e below (T'.setTop { g with pc := g.pc + 3, stack := v.toList ++ rest }) target → Steps p.tables e below (T.setTop g) target :=
  own_cW X hx hown hZ wl wd (notFace_of_selects (args := #[]) (mvT hZ wse)) wse wn wi wc hy hM hf hl F hg hsize hlen hstack hW hdg eT has hc hs
end OwnCalls
abbrev own_EL : List (String × Nat) := [("com/example/fastpath/fastpath/settings/RedisServer", 30), ("com/example/fastpath/fastpath/settings/RedisServer", 32), ("com/example/fastpath/fastpath/settings/RedisServer", 34), ("com/example/fastpath/fastpath/settings/RedisServer", 38), ("com/example/fastpath/fastpath/settings/RedisServer", 47), ("com/example/fastpath/fastpath/settings/RedisServer", 49), ("com/example/fastpath/fastpath/settings/RedisServer", 54), ("java/lang/String", 7)]
theorem own_hEL {Z : State} {a0 : Array Value} (hw : ∀ d ∈ tables_1, d.before a0 Z = true) : EW Z a0 own_EL := (EW.cons (oG hw 246 rfl) (by decide) (EW.cons (oG hw 53 rfl) (by decide) (EW.cons (oG hw 54 rfl) (by decide) (EW.cons (oG hw 247 rfl) (by decide) (EW.cons (oG hw 121 rfl) (by decide) (EW.cons (oG hw 122 rfl) (by decide) (EW.cons (oG hw 145 rfl) (by decide) (EW.cons (oG hw 14 rfl) (by decide) EW.nil))))))))
def own_at (vs : List Value) (j : Int32) : Int32 := match vs.getD j.toNatClampNeg (.int 0) with | .int x => x | _ => 0
theorem own_atv {c : Cell} {vs : List Value} {j : Int32} (H : Has c vs (.int 0)) (G : ∀ i, i < c.slots.size → fits .byte (vs.getD i (.int 0)) = true) (q : ¬ (j < 0 ∨ c.slots.size ≤ j.toNatClampNeg)) : c.slots[j.toNatClampNeg]? = some (.int (own_at vs j)) := by
  have hl := Nat.lt_of_not_le fun y => q (Or.inr y)
  obtain ⟨x, hx⟩ := fit_I (G _ hl) (Or.inr (Or.inr (Or.inl rfl)))
  rw [H _ hl]; simp only [own_at, hx]
theorem own_setG {Z : State} {h h' : Heap} {a : Addr} {k : ClassId} {z : Int32} {vs : List Value} {sl : Nat} {v : Value} (F : Arv Z h a k .byte z vs (.int 0)) (W : Wr h h' a sl v) (hv : fits .byte v = true) : ∃ vs', Arv Z h' a k .byte z vs' (.int 0) := by
  obtain ⟨c, A, q1, S, q3, H, G⟩ := F
  refine ⟨(c.setSlot sl v).slots.toList, c.setSlot sl v, A.same W, q1, by rw [sz_set]; exact S, q3, fun i hi => ?_, fun i hi => ?_⟩
  · simp [List.getD_eq_getElem?_getD, hi]
  · have hi' := hi
    rw [sz_set] at hi'
    have g := G i hi'
    have e := H i hi'
    by_cases u : sl = i
    · subst u; simpa [List.getD_eq_getElem?_getD, Cell.setSlot, hi'] using hv
    · have e2 : (c.setSlot sl v).slots[i]? = some (vs.getD i (.int 0)) := by simp only [Cell.setSlot]; rw [Array.getElem?_setIfInBounds_ne u]; exact e
      have e3 : (c.setSlot sl v).slots.toList.getD i (.int 0) = vs.getD i (.int 0) := by rw [List.getD_eq_getElem?_getD, Array.getElem?_toList, e2]; rfl
      rw [e3]; exact g
theorem own_startG {s : State} {a : Addr} {cl : Cell} {z : Int32} (hf : Fit s) (A : Arr s s.heap a cl .byte) (q : cl.slots.size < 2 ^ 31) (e : cl.slots.size.toInt32 = z) (hz : ¬ z < 0) : ∃ vs, Arv s s.heap a cl.cls .byte z vs (.int 0) := by
  have T := Tab.start hf A (Or.inr (Or.inr (Or.inl rfl))) q e hz
  refine ⟨cl.slots.toList, cl, A, rfl, T.2.1, hz, fun i hi => by simp [List.getD_eq_getElem?_getD, hi], fun i hi => ?_⟩
  have e1 : (Nat.toInt32 i).toNatClampNeg = i := by simp only [Int32.toNatClampNeg, len_toInt (Nat.lt_trans hi q)]; rfl
  exact elem_fits (j := Nat.toInt32 i) hf A (idx_in hi q) (by rw [e1]; simp [List.getD_eq_getElem?_getD, hi])
theorem own_neS {Z : State} {h : Heap} {a b t u : Addr} {k k' : ClassId} {z z' : Int32} {vs vs' : List Value} {C n d : String} {dv dv' : Value} (F : Fld Z h a C n d (.ref t)) (G : Fld Z h b C n d (.ref u)) (A : Arv Z h t k .byte z vs dv) (B : Arv Z h u k' .byte z' vs' dv') (q : ¬ z = z') : ¬ a = b := fun e => by
  subst e
  have tu : t = u := by
    obtain ⟨c1, _, _, _, _, h1, h2, -, -, -, -, h7⟩ := F
    obtain ⟨c2, _, _, _, _, g1, g2, -, -, -, -, g7⟩ := G
    cases h1.symm.trans g1; cases h2.symm.trans g2; exact Value.ref.inj (Option.some.inj (h7.symm.trans g7))
  subst tu
  obtain ⟨c1, A1, -, S1, N1, -⟩ := A
  obtain ⟨c2, A2, -, S2, N2, -⟩ := B
  cases A1.1.symm.trans A2.1
  exact q ((len_of S1 N1).symm.trans (len_of S2 N2))
theorem own_shr0 (z : Int32) : (z >>> ((0 : Int32) &&& 31)) = z := by
  have h := c_ishr z (0 : Int32) 0 (by decide)
  rw [← Int32.toInt_inj]; omega
theorem own_nc {c : Int32} (h : ¬ c < 0 ∧ ¬ (127 : Int32) < c) : (nar .char c) = c := by
  have e : nar .char c = c.toUInt32.toUInt16.toUInt32.toInt32 := rfl
  have z0 : (0 : Int32).toInt = 0 := rfl
  have z1 : (127 : Int32).toInt = 127 := rfl
  obtain ⟨h1, h2⟩ := h
  rw [Int32.lt_iff_toInt_lt] at h1 h2
  rw [e, ← Int32.toInt_inj]
  have := c_i2c c
  omega
theorem own_n1 {c : Int32} (h : ¬ c < 0 ∧ ¬ (127 : Int32) < c) : (c.toInt8.toInt32) = c := by
  have z0 : (0 : Int32).toInt = 0 := rfl
  have z1 : (127 : Int32).toInt = 127 := rfl
  obtain ⟨h1, h2⟩ := h
  rw [Int32.lt_iff_toInt_lt] at h1 h2
  rw [← Int32.toInt_inj]
  have := c_i2b c
  omega
/-- a literal's bytes are a byte[] -/
theorem own_litB {Z : State} {EL : List (String × Nat)} {vm : Vm} {h : Heap} {b : Addr} {k : ClassId} {z : Int32} {vs : List Value} {d : Value} (hal : Z.vm.Alike vm) (A : Arv Z h b k .byte z vs d) (B : Bk Z EL vm h b) : Exa Z h b "[B" := by
  have ns := A.nostat
  obtain ⟨cl, ⟨A1, ⟨hs, kA, hkA, compA, hkindA⟩, -⟩, -⟩ := A
  obtain ⟨kA', hkA', ekA⟩ := hal.2.2 _ _ hkA
  obtain ⟨p, -, u, a, -, q, -, F, hy⟩ := B
  have ha := F.ha
  have hd := F.hd
  obtain ⟨cS, ⟨-, -, ec⟩, ⟨kS, g1, g2, -⟩, f, -⟩ := F
  rcases hy with rfl | rfl
  · exfalso
    cases (show h[q.sa]? = some q.sC from ha).symm.trans A1
    rw [← ec] at g1
    have g1' : vm.classes[q.sC.cls]? = some kS := g1
    rw [hkA'] at g1'
    cases g1'
    rw [ekA, hkindA] at g2
    cases g2
  · cases (show h[q.sd]? = some q.SA from hd).symm.trans A1
    have f' : vm.findClass "[B" = some q.SA.cls := f
    rw [hal.findClass] at f'
    exact ⟨_, kA, A1, f', hkA, ns _ A1, fun q => by rw [hkindA] at q; cases q⟩
/-- a String whose value is null is none of the literals that the tables book -/
theorem own_safeN {Z : State} {EL : List (String × Nat)} {vm : Vm} {h : Heap} {x : Addr} (hal : Z.vm.Alike vm) (E : Exa Z h x "java/lang/String") (F : Fld Z h x "java/lang/String" "value" "[B" .null) : Safe Z EL vm h x := fun B => by
  obtain ⟨pr, -, u, a, -, q, -, FB, hy⟩ := B
  have ha := FB.ha
  have hd := FB.hd
  obtain ⟨cS, ⟨⟨-, -, -, ⟨c1, k1, i1, f1, -⟩, -, -, -, v1, -⟩, -⟩, -, hB, -⟩ := FB
  rcases hy with rfl | rfl
  · obtain ⟨cell, cf, k, i, f, g1, g2, -, -, -, -, g7⟩ := F
    obtain ⟨k3, e3, -⟩ := State.fieldFound?_setVm (s := Z) hal g2
    have e4 := (show (Wst Z vm h).fieldFound? _ _ _ = _ from e3).symm.trans f1
    simp only [Option.some.injEq, Prod.mk.injEq] at e4
    cases g1.symm.trans (show h[q.sa]? = some q.sC from ha)
    rw [← e4.2.2.2, g7] at v1
    cases v1
  · obtain ⟨cell, k, g1, g2, -⟩ := E
    cases g1.symm.trans (show h[q.sd]? = some q.SA from hd)
    have hB' : vm.findClass "[B" = some q.SA.cls := hB
    rw [hal.findClass] at hB'
    exact absurd rfl (ids_ne g2 hB' (by decide))
theorem own_za (x : Int32) : (0 : Int32) + x = x := by simp
theorem own_az (x : Int32) : x + (0 : Int32) = x := by simp
def own_min (a b : Int32) : Int32 := if b < a then b else a
def own_max (a b : Int32) : Int32 := if a < b then b else a
def own_ch (x : Int32) : Int32 := nar .char ((x &&& (255 : Int32)).toUInt32.toUInt16.toUInt32.toInt32)
def own_has (vs : List Value) (l : List Int32) : Prop := ∀ i, i < l.length → vs.getD i (.int 0) = .int (l.getD i 0)
def own_len (l : List Int32) (n : Int32) : Prop := n.toInt = (l.length : Int)
theorem own_cpy {vd xs : List Value} {l m : List Int32} {c n : Nat} (hc : c = l.length) (hn : n = m.length) (hl : c + n ≤ vd.length) (H : own_has vd l) (M : own_has xs m) : own_has (vd.take c ++ (List.range n).map (fun i => xs.getD (0 + i) (.int 0)) ++ vd.drop (c + n)) (l ++ m) := by
  subst hc hn
  intro i hi
  rw [List.length_append] at hi
  have ht : (vd.take l.length).length = l.length := by rw [List.length_take]; omega
  by_cases h : i < l.length
  · have := H i h
    rw [List.getD_eq_getElem?_getD, List.getElem?_append_left (by rw [List.length_append, ht]; omega), List.getElem?_append_left (by rw [ht]; exact h), List.getElem?_take_of_lt h, ← List.getD_eq_getElem?_getD, this]
    rw [List.getD_eq_getElem?_getD, List.getD_eq_getElem?_getD, List.getElem?_append_left h]
  · have hk : i - l.length < m.length := by omega
    have := M (i - l.length) hk
    rw [List.getD_eq_getElem?_getD, List.getElem?_append_left (by rw [List.length_append, ht, List.length_map, List.length_range]; omega), List.getElem?_append_right (by rw [ht]; omega), ht, List.getElem?_map, List.getElem?_range hk]
    rw [Option.map_some, Option.getD_some, Nat.zero_add, this]
    rw [List.getD_eq_getElem?_getD, List.getD_eq_getElem?_getD, List.getElem?_append_right (by omega)]
theorem own_cpl {vd : List Value} {f : Nat → Value} {c n : Nat} (hl : c + n ≤ vd.length) : (vd.take c ++ (List.range n).map f ++ vd.drop (c + n)).length = vd.length := by
  simp only [List.length_append, List.length_take, List.length_map, List.length_range, List.length_drop]; omega
theorem own_has0 (vs : List Value) : own_has vs [] := fun i hi => absurd hi (Nat.not_lt_zero _)
theorem own_rd {vs : List Value} {l : List Int32} {j : Int32} (H : own_has vs l) (hj : j.toNatClampNeg < l.length) : own_at vs j = l.getD j.toNatClampNeg 0 := by
  have := H _ hj; simp only [own_at, this]
theorem own_shl0 (z : Int32) : (z <<< ((0 : Int32) &&& 31)) = z := by
  have h := c_ishl z (0 : Int32) 0 (by decide)
  have r := rng32 (z <<< ((0 : Int32) &&& 31))
  have r' := rng32 z
  rw [← Int32.toInt_inj]; omega
theorem own_s0 (x : Int32) : x - (0 : Int32) = x := by simp
theorem own_decl {a : Array Value} {s : State} {y : MethodName} {bytes : ByteArray} {ml : Nat} {ret : Option FieldType} (wi : (Jvm.Cond.instanceMethod y).before a s = true) (wc : (Jvm.Cond.code y bytes ml ret).before a s = true) : (Jvm.Cond.declares y).before a s = true := by
  obtain ⟨mk, meth, hn, hm, hst, hab⟩ := Cond.instanceMethod_spec wi
  obtain ⟨m2, cM, q1, -, -, -, -, -, -, hsig⟩ := Cond.code_spec hn wc
  cases hm.symm.trans q1
  simp [Cond.before, Cond.holds, Cond.value, hn, hm, hst, hsig]
theorem own_same {a : Array Value} {s : State} {y y' : MethodName} {C : String} {bytes : ByteArray} {ml : Nat} {ret : Option FieldType} (wi : (Jvm.Cond.instanceMethod y).before a s = true) (wc : (Jvm.Cond.code y bytes ml ret).before a s = true) (ws : (Jvm.Cond.selects C y' y').before a s = true) (e : y'.cls = y.cls) (hx : y.cls ≠ "java/lang/invoke/MethodHandle" ∧ y.cls ≠ "java/lang/invoke/VarHandle") : (Jvm.Cond.sameMethod y.cls y.cls y.name y.desc).before a s = true := by
  obtain ⟨mk, meth, hn, hm, hst, hab⟩ := Cond.instanceMethod_spec wi
  have hf := State.methodFound?_of_named hn hx
  have hc := findClass_of_methodNamed hn
  obtain ⟨c2, r2, m2, q1, q2, q3, q4, kP, hkP, hkPi⟩ := Cond.selects_spec ws
  have hc2 := findClass_of_methodNamed q3
  rw [e, hc] at hc2
  have e2 : mk.cls = m2.cls := Option.some.inj hc2
  have hn' : s.methodNamed? ⟨y.cls, y.name, y.desc⟩ = some mk := hn
  simp [Cond.before, Cond.holds, Cond.value, hc, hf, hn', e2, hkP, hkPi]
theorem own_bt {l : List Int32} {p : Int32} (hn : own_len l p) : p.toNatClampNeg = l.length := by
  unfold own_len at hn; simp only [Int32.toNatClampNeg]; omega
theorem own_b0 {l : List Int32} {p : Int32} (hn : own_len l p) : ¬ p < 0 := by
  unfold own_len at hn; have z0 : (0 : Int32).toInt = 0 := rfl
  rw [Int32.lt_iff_toInt_lt]; omega
theorem own_b1 {l : List Int32} {p : Int32} (hn : own_len l p) (h : l.length ≤ 34) : p.toNatClampNeg ≤ 34 := by rw [own_bt hn]; exact h
theorem own_b3 {l : List Int32} {p z : Int32} (hn : own_len l p) (h : p < z) : (0 : Int32).toNatClampNeg + p.toNatClampNeg ≤ z.toNatClampNeg := by
  have e : (0 : Int32).toNatClampNeg = 0 := rfl
  unfold own_len at hn; rw [Int32.lt_iff_toInt_lt] at h; rw [e]; simp only [Int32.toNatClampNeg]; omega
theorem own_b4 (p : Int32) : (0 : Int32).toNatClampNeg + p.toNatClampNeg ≤ p.toNatClampNeg := by
  have e : (0 : Int32).toNatClampNeg = 0 := rfl
  rw [e]; omega
theorem own_b5 {l : List Int32} {p : Int32} (hn : own_len l p) (h : l.length ≤ 34) : (0 : Int32).toNatClampNeg + p.toNatClampNeg ≤ (List.replicate 34 (Value.int 0)).length := by
  have e : (0 : Int32).toNatClampNeg = 0 := rfl
  rw [e, List.length_replicate, own_bt hn]; omega
theorem own_b6 {l : List Int32} {p : Int32} {vs vx : List Value} (hn : own_len l p) (h : l.length ≤ 34) (H : own_has vs l) (e : vx = (List.replicate 34 (Value.int 0)).take (0 : Int32).toNatClampNeg ++ (List.range p.toNatClampNeg).map (fun i => vs.getD ((0 : Int32).toNatClampNeg + i) (.int 0)) ++ (List.replicate 34 (Value.int 0)).drop ((0 : Int32).toNatClampNeg + p.toNatClampNeg)) : own_has vx l := by
  have z : (0 : Int32).toNatClampNeg = 0 := rfl
  rw [z] at e; subst e
  have := own_cpy (l := []) (m := l) (c := 0) (n := p.toNatClampNeg) rfl (own_bt hn) (by rw [List.length_replicate, own_bt hn]; omega) (own_has0 (List.replicate 34 (Value.int 0))) H
  exact this
/-- a builder's array: 16 or 34 slots, and the list tells them all -/
def own_cap (z : Int32) (vs : List Value) : Prop := (z = (16 : Int32) ∨ z = (34 : Int32)) ∧ z.toNatClampNeg ≤ vs.length
theorem own_c34 {z : Int32} {vs : List Value} (h : own_cap z vs) : z.toNatClampNeg ≤ 34 := by rcases h.1 with rfl | rfl <;> decide
/-- l and m fit -/
def own_fit (l m : List Int32) (z : Int32) : Prop := ((l.length + m.length : Nat) : Int) ≤ z.toInt
theorem own_g4 {l m : List Int32} {p n z : Int32} (hl : own_len l p) (hm : own_len m n) (hf : own_fit l m z) : p.toNatClampNeg + n.toNatClampNeg ≤ z.toNatClampNeg := by
  rw [own_bt hl, own_bt hm]; unfold own_fit at hf; simp only [Int32.toNatClampNeg]; omega
theorem own_g5 {l m : List Int32} {p n z : Int32} {vs : List Value} (hl : own_len l p) (hm : own_len m n) (hf : own_fit l m z) (hc : own_cap z vs) : p.toNatClampNeg + n.toNatClampNeg ≤ vs.length := Nat.le_trans (own_g4 hl hm hf) hc.2
theorem own_g6 {l m : List Int32} {p n z : Int32} {vs bs vx : List Value} (hl : own_len l p) (hm : own_len m n) (hf : own_fit l m z) (hc : own_cap z bs) (H : own_has bs l) (M : own_has vs m) (e : vx = bs.take p.toNatClampNeg ++ (List.range n.toNatClampNeg).map (fun i => vs.getD ((0 : Int32).toNatClampNeg + i) (.int 0)) ++ bs.drop (p.toNatClampNeg + n.toNatClampNeg)) : own_has vx (l ++ m) ∧ own_cap z vx := by
  have z0 : (0 : Int32).toNatClampNeg = 0 := rfl
  rw [z0] at e; subst e
  have k := own_g5 hl hm hf hc
  exact ⟨own_cpy (own_bt hl) (own_bt hm) k H M, hc.1, by rw [own_cpl k]; exact hc.2⟩
theorem own_lapp {l m : List Int32} {p n : Int32} (hl : own_len l p) (hm : own_len m n) (h : l.length + m.length ≤ 34) : own_len (l ++ m) (p + n) := by
  unfold own_len at *
  have a := c_iadd p n
  have r := rng32 (p + n)
  rw [List.length_append]; omega
theorem own_nogrow {l m : List Int32} {p n z : Int32} (hl : own_len l p) (hm : own_len m n) (h : l.length + m.length ≤ 34) {vs : List Value} (hc : own_cap z vs) (hg : ¬ (0 : Int32) < ((p + n) - z)) : own_fit l m z := by
  have e := own_lapp hl hm h
  unfold own_len own_fit at *
  rw [List.length_append] at e
  have z0 : (0 : Int32).toInt = 0 := rfl
  have a := c_isub (p + n) z
  have r := rng32 ((p + n) - z)
  rw [Int32.lt_iff_toInt_lt] at hg
  rcases hc.1 with rfl | rfl
  · have q : (16 : Int32).toInt = 16 := rfl
    omega
  · have q : (34 : Int32).toInt = 34 := rfl
    omega
theorem own_grow {l m : List Int32} {p n z : Int32} (hl : own_len l p) (hm : own_len m n) (h : l.length + m.length ≤ 34) {vs : List Value} (hc : own_cap z vs) (hg : (0 : Int32) < ((p + n) - z)) : z = (16 : Int32) ∧ ¬ (34 : Int32) < (p + n) ∧ ¬ (p + n) < 0 := by
  have e := own_lapp hl hm h
  unfold own_len at *
  rw [List.length_append] at e
  have z0 : (0 : Int32).toInt = 0 := rfl
  have q : (34 : Int32).toInt = 34 := rfl
  have a := c_isub (p + n) z
  have r := rng32 ((p + n) - z)
  rw [Int32.lt_iff_toInt_lt] at hg
  refine ⟨?_, by rw [Int32.lt_iff_toInt_lt]; omega, by rw [Int32.lt_iff_toInt_lt]; omega⟩
  rcases hc.1 with rfl | rfl
  · rfl
  · exfalso; omega
theorem own_mx {p : Int32} (hg : (0 : Int32) < (p - (16 : Int32))) (h : ¬ (34 : Int32) < p) (h0 : ¬ p < 0) : own_max (p - (16 : Int32)) (18 : Int32) = (18 : Int32) := by
  have z0 : (0 : Int32).toInt = 0 := rfl
  have z16 : (16 : Int32).toInt = 16 := rfl
  have z34 : (34 : Int32).toInt = 34 := rfl
  have z18 : (18 : Int32).toInt = 18 := rfl
  have a := c_isub p 16
  have r := rng32 (p - 16)
  have r' := rng32 p
  rw [Int32.lt_iff_toInt_lt] at hg h h0
  unfold own_max; split
  · rfl
  · rename_i q; rw [Int32.lt_iff_toInt_lt] at q; rw [← Int32.toInt_inj]; omega
def own_in (l : List Int32) (z : Int32) : Prop := (l.length : Int) ≤ z.toInt
theorem own_lt2 {l : List Int32} {p z : Int32} (hn : own_len l p) (hi : own_in l z) (h : ¬ p = z) : p < z := by
  unfold own_len own_in at *
  rw [← Int32.toInt_inj] at h; rw [Int32.lt_iff_toInt_lt]; omega
theorem own_i16 {l : List Int32} (h : own_in l (16 : Int32)) : l.length ≤ 16 := by
  unfold own_in at h; have q : (16 : Int32).toInt = 16 := rfl
  omega
theorem own_fit34 {l m : List Int32} (h : l.length + m.length ≤ 34) : own_fit l m (34 : Int32) := by
  unfold own_fit; have q : (34 : Int32).toInt = 34 := rfl
  omega
theorem own_fin {l m : List Int32} {z : Int32} (h : own_fit l m z) : own_in (l ++ m) z := by
  unfold own_fit at h; unfold own_in; rw [List.length_append]; exact h
theorem own_co {l : List Int32} {vs vx : List Value} (H : own_has vs l) (h : l.length ≤ 16) (e : vx = ([(.int 0), (.int 0), (.int 0), (.int 0), (.int 0), (.int 0), (.int 0), (.int 0), (.int 0), (.int 0), (.int 0), (.int 0), (.int 0), (.int 0), (.int 0), (.int 0), (.int 0), (.int 0), (.int 0), (.int 0), (.int 0), (.int 0), (.int 0), (.int 0), (.int 0), (.int 0), (.int 0), (.int 0), (.int 0), (.int 0), (.int 0), (.int 0), (.int 0), (.int 0)] : List Value).take (0 : Int32).toNatClampNeg ++ (List.range (16 : Int32).toNatClampNeg).map (fun i => vs.getD ((0 : Int32).toNatClampNeg + i) (.int 0)) ++ ([(.int 0), (.int 0), (.int 0), (.int 0), (.int 0), (.int 0), (.int 0), (.int 0), (.int 0), (.int 0), (.int 0), (.int 0), (.int 0), (.int 0), (.int 0), (.int 0), (.int 0), (.int 0), (.int 0), (.int 0), (.int 0), (.int 0), (.int 0), (.int 0), (.int 0), (.int 0), (.int 0), (.int 0), (.int 0), (.int 0), (.int 0), (.int 0), (.int 0), (.int 0)] : List Value).drop ((0 : Int32).toNatClampNeg + (16 : Int32).toNatClampNeg)) : own_has vx l ∧ own_cap (34 : Int32) vx := by
  have z0 : (0 : Int32).toNatClampNeg = 0 := rfl
  have z16 : (16 : Int32).toNatClampNeg = 16 := rfl
  rw [z0, z16] at e
  refine ⟨?_, Or.inr rfl, ?_⟩
  · subst e
    intro i hi
    have k := H i hi
    have hr : i < 16 := by omega
    rw [List.take_zero, List.nil_append, List.getD_eq_getElem?_getD, List.getElem?_append_left (by rw [List.length_map, List.length_range]; exact hr), List.getElem?_map, List.getElem?_range hr, Option.map_some, Option.getD_some, Nat.zero_add, k]
  · subst e
    simp only [List.length_append, List.length_map, List.length_range]; decide
theorem own_orc {P : Prop} {a b : Addr} {n : Nat} (h : a = b ∨ P) (h1 : n ≤ b) (h2 : P → n ≤ a) : n ≤ a := h.elim (fun e => e ▸ h1) h2
theorem own_orn {P : Prop} {a b x : Addr} (h : a = b ∨ P) (h1 : x ≠ b) (h2 : P → x ≠ a) : x ≠ a := h.elim (fun e => e ▸ h1) h2
theorem own_ors {P : Prop} {a b : Addr} {Z : State} {EL : List (String × Nat)} {vm : Vm} {hp : Heap} (h : a = b ∨ P) (h1 : Safe Z EL vm hp b) (h2 : P → Safe Z EL vm hp a) : Safe Z EL vm hp a := h.elim (fun e => e ▸ h1) h2
theorem own_nf {args : Array Value} {s : State} {y y' : MethodName} {C : String} (ws : (Jvm.Cond.selects C y' y').before args s = true) (e : y'.cls = y.cls) : NotFace s y := fun r0 h0 => by
  obtain ⟨c2, r2, m2, q1, q2, q3, q4, kP, hkP, hkPi⟩ := Cond.selects_spec ws
  have a := findClass_of_methodNamed q3
  have b := findClass_of_methodNamed h0
  rw [e, b] at a
  have e2 : r0.cls = m2.cls := Option.some.inj a
  exact ⟨kP, by rw [e2]; exact hkP, hkPi⟩
def own_by (c : Int32) : Int32 := c.toInt8.toInt32
theorem own_by2 (c : Int32) : (c.toInt8.toInt32).toInt8.toInt32 = own_by c := by
  unfold own_by
  have a := c_i2b c
  have b := c_i2b c.toInt8.toInt32
  rw [← Int32.toInt_inj]; omega
theorem own_nc8 {c : Int32} (h : ¬ c < 0 ∧ ¬ (255 : Int32) < c) : (nar .char c) = c := by
  have e : nar .char c = c.toUInt32.toUInt16.toUInt32.toInt32 := rfl
  have z0 : (0 : Int32).toInt = 0 := rfl
  have z1 : (255 : Int32).toInt = 255 := rfl
  obtain ⟨h1, h2⟩ := h
  rw [Int32.lt_iff_toInt_lt] at h1 h2
  rw [e, ← Int32.toInt_inj]
  have := c_i2c c
  omega
theorem own_len0 : own_len [] (0 : Int32) := rfl
theorem own_in0 : own_in [] (16 : Int32) := by unfold own_in; decide
theorem own_hasL {vs : List Value} {l : List Int32} (h : vs = l.map Value.int) : own_has vs l := fun i hi => by
  subst h; simp [List.getD_eq_getElem?_getD, hi]
def own_cl (n c0 c1 c2 : Int32) : List Int32 := if n = (0 : Int32) then [] else if n = (1 : Int32) then [own_by c0] else if n = (2 : Int32) then [own_by c0, own_by c1] else [own_by c0, own_by c1, own_by c2]
theorem own_clh0 {n c0 c1 c2 : Int32} (e : n = (0 : Int32)) : own_has [] (own_cl n c0 c1 c2) := by subst e; exact own_hasL rfl
theorem own_clh1 {n c0 c1 c2 : Int32} (e : n = (1 : Int32)) : own_has [.int (own_by c0)] (own_cl n c0 c1 c2) := by subst e; exact own_hasL rfl
theorem own_clh2 {n c0 c1 c2 : Int32} (e : n = (2 : Int32)) : own_has [.int (own_by c0), .int (own_by c1)] (own_cl n c0 c1 c2) := by subst e; exact own_hasL rfl
theorem own_clh3 {n c0 c1 c2 : Int32} (e : n = (3 : Int32)) : own_has [.int (own_by c0), .int (own_by c1), .int (own_by c2)] (own_cl n c0 c1 c2) := by subst e; exact own_hasL rfl
theorem own_cln {n c0 c1 c2 : Int32} (h : n = (0 : Int32) ∨ n = (1 : Int32) ∨ n = (2 : Int32) ∨ n = (3 : Int32)) : own_len (own_cl n c0 c1 c2) n := by
  rcases h with rfl | rfl | rfl | rfl <;> (unfold own_len; rfl)
theorem own_clk {n c0 c1 c2 : Int32} (h : n = (0 : Int32) ∨ n = (1 : Int32) ∨ n = (2 : Int32) ∨ n = (3 : Int32)) : (own_cl n c0 c1 c2).length ≤ 3 := by
  rcases h with rfl | rfl | rfl | rfl <;> exact Nat.le_of_ble_eq_true rfl
theorem own_n3e {n : Int32} (h : n = (0 : Int32) ∨ n = (1 : Int32) ∨ n = (2 : Int32) ∨ n = (3 : Int32)) (h0 : ¬ n = (0 : Int32)) (h1 : ¬ n = (1 : Int32)) (h2 : ¬ n = (2 : Int32)) : n = (3 : Int32) := by
  rcases h with h | h | h | h
  · exact absurd h h0
  · exact absurd h h1
  · exact absurd h h2
  · exact h
theorem own_n03 (x : Int32) : (x &&& (3 : Int32)) = (0 : Int32) ∨ (x &&& (3 : Int32)) = (1 : Int32) ∨ (x &&& (3 : Int32)) = (2 : Int32) ∨ (x &&& (3 : Int32)) = (3 : Int32) := by
  have h := c_mask x (3 : Int32) 2 (by decide) (by decide)
  simp only [← Int32.toInt_inj, Int32.reduceToInt]; omega
theorem own_c8 (x : Int32) : ¬ ((x &&& (255 : Int32)).toUInt32.toUInt16.toUInt32.toInt32) < 0 ∧ ¬ (255 : Int32) < ((x &&& (255 : Int32)).toUInt32.toUInt16.toUInt32.toInt32) := by
  have z0 : (0 : Int32).toInt = 0 := rfl
  have z1 : (255 : Int32).toInt = 255 := rfl
  have h := c_mask x (255 : Int32) 8 (by decide) (by decide)
  generalize (x &&& (255 : Int32)) = y at *
  have h3 := c_i2c y
  rw [Int32.lt_iff_toInt_lt, Int32.lt_iff_toInt_lt]; omega
theorem own_il {l : List Int32} {z j : Int32} (h : own_len l z) (h0 : ¬ j < 0) (hj : j.toNatClampNeg < l.length) : j < z := by
  unfold own_len at h
  have z0 : (0 : Int32).toInt = 0 := rfl
  rw [Int32.lt_iff_toInt_lt] at h0 ⊢; simp only [Int32.toNatClampNeg] at hj; omega
theorem own_eqc {vs : List Value} {l : List Int32} {j ch : Int32} (H : own_has vs l) (hj : j.toNatClampNeg < l.length) (hc : nar .char (own_ch (l.getD j.toNatClampNeg 0)) = ch) : nar .char (own_ch (own_at vs j)) = ch := by rw [own_rd H hj]; exact hc
theorem own_lz {l : List Int32} {z k : Int32} (h : own_len l z) (e : (l.length : Int) = k.toInt) : z = k := by
  unfold own_len at h; rw [← Int32.toInt_inj, h, e]
theorem own_lx {a b n : Int32} (hab : a < b) (h : ¬ a < n) : ¬ b < n := by
  rw [Int32.lt_iff_toInt_lt] at *; omega
theorem own_bc {c : Int32} (h : ¬ c < 0 ∧ ¬ (255 : Int32) < c) : nar .char (own_ch (own_by c)) = c := by
  have z0 : (0 : Int32).toInt = 0 := rfl
  have z1 : (255 : Int32).toInt = 255 := rfl
  obtain ⟨h1, h2⟩ := h
  rw [Int32.lt_iff_toInt_lt] at h1 h2
  unfold own_ch own_by
  have a := c_i2b c
  generalize c.toInt8.toInt32 = x at *
  have b := c_mask x (255 : Int32) 8 (by decide) (by decide)
  generalize (x &&& (255 : Int32)) = y at *
  have d := c_i2c y
  generalize y.toUInt32.toUInt16.toUInt32.toInt32 = v at *
  have e1 : nar .char v = v.toUInt32.toUInt16.toUInt32.toInt32 := rfl
  rw [e1]
  have f := c_i2c v
  generalize v.toUInt32.toUInt16.toUInt32.toInt32 = w at *
  have e2 : nar .char w = w.toUInt32.toUInt16.toUInt32.toInt32 := rfl
  rw [e2, ← Int32.toInt_inj]
  have g := c_i2c w
  omega
section OwnStart
variable {args : Array Value} {s : State}
theorem own_eqN {t : Term} (h : (Jvm.Cond.eq t .null).value args s none s [] = some true) : t.eval args s none [] s = some .null := by
  obtain ⟨x, y, h1, h2, h3, h4⟩ := cmp_v (Or.inl h)
  obtain rfl : y = .null := Option.some.inj (h2.symm.trans rfl)
  have q := gotT (eq_R h1 h2 h4.2 h4.1) h
  rw [h1, q]
theorem own_elA {t : Term} {a : Addr} {cl : Cell} {k : Int32} {v : Value} (ht : t.eval args s none [] s = some (.ref a)) (A : Arr s s.heap a cl .byte) (h : (Term.elem t (.int k)).eval args s none [] s = some v) (hk : ¬ k < 0) : cl.slots[k.toNatClampNeg]? = some v := by
  rw [elem_f ht (Term.int_eval k) (Arr.fin (Vm.Alike.refl _) A) hk] at h; exact h
theorem own_len' {t : Term} {cl : Cell} {k : Int32} (h : (Term.length t).eval args s none [] s = some (.int k)) {a : Addr} (ht : t.eval args s none [] s = some (.ref a)) (A : Arr s s.heap a cl .byte) : cl.slots.size < 2 ^ 31 ∧ cl.slots.size.toInt32 = k := by
  have ha : s.arrayAt? a = some cl := Arr.fin (Vm.Alike.refl _) A
  by_cases hl : cl.slots.size < 2 ^ 31
  · rw [len_f ht ha hl] at h; cases h; exact ⟨hl, rfl⟩
  · simp [Term.eval, ht, ha, hl] at h
end OwnStart
/-- how many digits -/
def own_nd (v : Int32) : Nat := if v.toInt < 10 then 1 else if v.toInt < 100 then 2 else if v.toInt < 1000 then 3 else if v.toInt < 10000 then 4 else if v.toInt < 100000 then 5 else if v.toInt < 1000000 then 6 else if v.toInt < 10000000 then 7 else if v.toInt < 100000000 then 8 else if v.toInt < 1000000000 then 9 else 10
def own_ni (v : Int32) : Int32 := Int32.ofNat (own_nd v)
def own_qt : Nat → Int → Int | 0, x => x | n + 1, x => own_qt n x / 10
def own_qn : Nat → Int → Int | 0, x => x | n + 1, x => own_qn n x / 100
/-- the i-th digit's sign, from the right -/
def own_d (i : Nat) (v : Int32) : Int32 := Int32.ofInt (48 + own_qt i v.toInt % 10)
def own_dk : Nat → Int32 → List Int32 | 0, _ => [] | n + 1, v => own_d n v :: own_dk n v
def own_dl (v : Int32) : List Int32 := own_dk (own_nd v) v
theorem own_nn {v : Int32} (hv : ¬ v < 0) : 0 ≤ v.toInt := by
  have z0 : (0 : Int32).toInt = 0 := rfl
  rw [Int32.lt_iff_toInt_lt] at hv; omega
theorem own_ng {v : Int32} (hv : ¬ v < 0) : (-v).toInt = -v.toInt := by
  have a := own_nn hv
  have b := c_ineg v
  have r := rng32 v
  have r' := rng32 (-v)
  omega
theorem own_ndb (v : Int32) : 0 < own_nd v ∧ own_nd v ≤ 10 := by
  unfold own_nd; (repeat' split) <;> omega
theorem own_nie (v : Int32) : (own_ni v).toInt = (own_nd v : Int) := by
  have h := own_ndb v
  unfold own_ni
  rcases (by omega : own_nd v = 1 ∨ own_nd v = 2 ∨ own_nd v = 3 ∨ own_nd v = 4 ∨ own_nd v = 5 ∨ own_nd v = 6 ∨ own_nd v = 7 ∨ own_nd v = 8 ∨ own_nd v = 9 ∨ own_nd v = 10) with e | e | e | e | e | e | e | e | e | e <;> rw [e] <;> rfl
theorem own_dkl (n : Nat) (v : Int32) : (own_dk n v).length = n := by
  induction n with
  | zero => rfl
  | succ n ih => simp only [own_dk, List.length_cons, ih]
theorem own_dln (v : Int32) : (own_dl v).length = own_nd v := own_dkl _ _
theorem own_dlen (v : Int32) : own_len (own_dl v) (own_ni v) := by
  unfold own_len; rw [own_nie, own_dln]
theorem own_dl10 (v : Int32) : (own_dl v).length ≤ 10 := by rw [own_dln]; exact (own_ndb v).2
theorem own_dl5 {v : Int32} (h : ¬ (65535 : Int32) < v) : (own_dl v).length ≤ 5 := by
  have z : (65535 : Int32).toInt = 65535 := rfl
  rw [Int32.lt_iff_toInt_lt] at h
  rw [own_dln]; unfold own_nd; (repeat' split) <;> omega
theorem own_dkg (n i : Nat) (v : Int32) (h : i < n) : (own_dk n v).getD i 0 = own_d (n - 1 - i) v := by
  induction n generalizing i with
  | zero => omega
  | succ n ih =>
    cases i with
    | zero => simp [own_dk]
    | succ i =>
      have := ih i (by omega)
      simp only [own_dk, List.getD_cons_succ, this]
      congr 1; omega
theorem own_qtp {x : Int} (h : 0 ≤ x) (n : Nat) : 0 ≤ own_qt n x := by
  induction n with
  | zero => exact h
  | succ n ih => simp only [own_qt]; omega
theorem own_qnp {x : Int} (h : 0 ≤ x) (n : Nat) : 0 ≤ own_qn n x := by
  induction n with
  | zero => exact h
  | succ n ih => simp only [own_qn]; omega
theorem own_q2 (x : Int) (m : Nat) : own_qt (2 * m) x = own_qn m x := by
  induction m with
  | zero => rfl
  | succ m ih =>
    rw [show 2 * (m + 1) = 2 * m + 1 + 1 from by omega]
    simp only [own_qt, own_qn, ih]; omega
theorem own_dv (i : Nat) (v : Int32) : (own_d i v).toInt = 48 + own_qt i v.toInt % 10 := by
  unfold own_d
  rw [Int32.toInt_ofInt_of_le (by omega) (by omega)]
/-- getChars: what is left after m turns, and the two digits of a turn -/
def own_iq : Nat → Int32 → Int32 | 0, v => -v | n + 1, v => own_iq n v / (100 : Int32)
def own_r (m : Nat) (v : Int32) : Int32 := ((own_iq m v / (100 : Int32)) * (100 : Int32)) - own_iq m v
theorem own_iqv (m : Nat) {v : Int32} (hv : ¬ v < 0) : (own_iq m v).toInt = -(own_qn m v.toInt) := by
  induction m with
  | zero => exact own_ng hv
  | succ m ih =>
    have c := c_idiv (own_iq m v) (100 : Int32) 100 rfl (by decide)
    have p := own_qnp (own_nn hv) m
    simp only [own_iq, own_qn]
    rw [ih] at c
    by_cases h : own_qn m v.toInt = 0
    · have := c.1 (by omega); omega
    · have := c.2 (by omega); omega
theorem own_rv (m : Nat) {v : Int32} (hv : ¬ v < 0) : (own_r m v).toInt = own_qn m v.toInt % 100 := by
  have a := own_iqv m hv
  have b := own_iqv (m + 1) hv
  have p := own_qnp (own_nn hv) m
  simp only [own_qn, own_iq] at b
  unfold own_r
  have z : (100 : Int32).toInt = 100 := rfl
  have c := c_imul (own_iq m v / (100 : Int32)) (100 : Int32)
  have d := c_isub ((own_iq m v / (100 : Int32)) * (100 : Int32)) (own_iq m v)
  have r1 := rng32 ((own_iq m v / (100 : Int32)) * (100 : Int32))
  have r2 := rng32 ((own_iq m v / (100 : Int32)) * (100 : Int32) - own_iq m v)
  have r3 := rng32 (own_iq m v)
  rw [b, z] at c
  omega
theorem own_rb (m : Nat) {v : Int32} (hv : ¬ v < 0) : ¬ own_r m v < 0 ∧ own_r m v < (100 : Int32) := by
  have a := own_rv m hv
  have z0 : (0 : Int32).toInt = 0 := rfl
  have z : (100 : Int32).toInt = 100 := rfl
  rw [Int32.lt_iff_toInt_lt, Int32.lt_iff_toInt_lt]; omega
theorem own_ev (m : Nat) {v : Int32} (hv : ¬ v < 0) : (-own_iq m v).toInt = own_qn m v.toInt := by
  have a := own_iqv m hv
  have p := own_qnp (own_nn hv) m
  have b := c_ineg (own_iq m v)
  have r := rng32 (own_iq m v)
  have r' := rng32 (-own_iq m v)
  have rv := rng32 v
  have le : own_qn m v.toInt ≤ v.toInt := by
    have nn := own_nn hv
    clear a b r r' p
    induction m with
    | zero => exact Int.le_refl _
    | succ m ih => have := own_qnp nn m; simp only [own_qn]; omega
  omega
theorem own_eb (m : Nat) {v : Int32} (hv : ¬ v < 0) (h : (-100 : Int32) < own_iq m v) : ¬ (-own_iq m v) < 0 ∧ (-own_iq m v) < (100 : Int32) := by
  have a := own_ev m hv
  have c := own_iqv m hv
  have p := own_qnp (own_nn hv) m
  have z0 : (0 : Int32).toInt = 0 := rfl
  have z : (100 : Int32).toInt = 100 := rfl
  have z' : (-100 : Int32).toInt = -100 := rfl
  rw [Int32.lt_iff_toInt_lt] at h
  rw [Int32.lt_iff_toInt_lt, Int32.lt_iff_toInt_lt]; omega
def own_do (vs : List Value) : Prop := ∀ j : Int32, ¬ j < 0 ∧ j < (100 : Int32) → (own_at vs j).toInt = 48 + j.toInt % 10
def own_dt (vs : List Value) : Prop := ∀ j : Int32, ¬ j < 0 ∧ j < (100 : Int32) → (own_at vs j).toInt = 48 + j.toInt / 10
theorem own_one (m : Nat) {v : Int32} {vs : List Value} (hv : ¬ v < 0) (D : own_do vs) : own_at vs (own_r m v) = own_d (2 * m) v := by
  have a := D _ (own_rb m hv)
  have b := own_rv m hv
  have c := own_dv (2 * m) v
  rw [own_q2] at c
  rw [← Int32.toInt_inj]; omega
theorem own_ten (m : Nat) {v : Int32} {vs : List Value} (hv : ¬ v < 0) (D : own_dt vs) : own_at vs (own_r m v) = own_d (2 * m + 1) v := by
  have a := D _ (own_rb m hv)
  have b := own_rv m hv
  have c := own_dv (2 * m + 1) v
  simp only [own_qt, own_q2] at c
  have p := own_qnp (own_nn hv) m
  rw [← Int32.toInt_inj]; omega
theorem own_oneE (m : Nat) {v : Int32} {vs : List Value} (hv : ¬ v < 0) (h : (-100 : Int32) < own_iq m v) (D : own_do vs) : own_at vs (-own_iq m v) = own_d (2 * m) v := by
  have a := D _ (own_eb m hv h)
  have b := own_ev m hv
  have c := own_dv (2 * m) v
  rw [own_q2] at c
  rw [← Int32.toInt_inj]; omega
theorem own_tenE (m : Nat) {v : Int32} {vs : List Value} (hv : ¬ v < 0) (h : (-100 : Int32) < own_iq m v) (D : own_dt vs) : own_at vs (-own_iq m v) = own_d (2 * m + 1) v := by
  have a := D _ (own_eb m hv h)
  have b := own_ev m hv
  have c := own_dv (2 * m + 1) v
  simp only [own_qt, own_q2] at c
  have p := own_qnp (own_nn hv) m
  have q := own_iqv m hv
  have z' : (-100 : Int32).toInt = -100 := rfl
  rw [Int32.lt_iff_toInt_lt] at h
  rw [← Int32.toInt_inj]; omega
/-- the builder's array while getChars writes: t digits stand from j on -/
def own_gi (vs : List Value) (l : List Int32) (z v j : Int32) (t : Nat) : Prop := own_cap z vs ∧ own_has vs l ∧ j.toInt + (t : Int) = (l.length : Int) + (own_nd v : Int) ∧ (l.length : Int) + (own_nd v : Int) ≤ z.toInt ∧ ∀ i, i < t → vs.getD (j.toNatClampNeg + i) (.int 0) = .int ((own_dk t v).getD i 0)
theorem own_cz {z : Int32} {vs : List Value} (h : own_cap z vs) : z.toInt ≤ 34 := by rcases h.1 with rfl | rfl <;> decide
theorem own_gi0 {vs : List Value} {l : List Int32} {z v p : Int32} (wl : own_len l p) (w34 : l.length + (own_dl v).length ≤ 34) (wc : own_cap z vs) (wh : own_has vs l) (wf : own_fit l (own_dl v) z) : own_gi vs l z v (p + own_ni v) 0 := by
  have e := own_lapp wl (own_dlen v) w34
  unfold own_len at e
  rw [List.length_append, own_dln] at e
  unfold own_fit at wf
  rw [own_dln] at wf
  refine ⟨wc, wh, ?_, ?_, fun i hi => absurd hi (Nat.not_lt_zero _)⟩
  · rw [e]; omega
  · omega
theorem own_gj {vs : List Value} {l : List Int32} {z v j : Int32} {t : Nat} (I : own_gi vs l z v j t) (ht : t < own_nd v) : (j + (-1 : Int32)).toInt = j.toInt - 1 ∧ (l.length : Int) < j.toInt ∧ j.toInt ≤ z.toInt := by
  obtain ⟨a, b, c, d, -⟩ := I
  have zz := own_cz a
  have z1 : (-1 : Int32).toInt = -1 := rfl
  have q := c_iadd j (-1 : Int32)
  have r := rng32 (j + (-1 : Int32))
  omega
theorem own_gib {vs : List Value} {l : List Int32} {z v j : Int32} {t : Nat} (I : own_gi vs l z v j t) (ht : t < own_nd v) : ¬ (j + (-1 : Int32)) < 0 ∧ (j + (-1 : Int32)) < z := by
  obtain ⟨a, b, c⟩ := own_gj I ht
  have z0 : (0 : Int32).toInt = 0 := rfl
  rw [Int32.lt_iff_toInt_lt, Int32.lt_iff_toInt_lt]; omega
theorem own_gis {vs : List Value} {l : List Int32} {z v j : Int32} {t : Nat} (I : own_gi vs l z v j t) (ht : t < own_nd v) : own_gi (vs.set (j + (-1 : Int32)).toNatClampNeg (.int (own_d t v))) l z v (j + (-1 : Int32)) (t + 1) := by
  obtain ⟨e1, e2, e3⟩ := own_gj I ht
  obtain ⟨a, b, c, d, f⟩ := I
  have hj : (j + (-1 : Int32)).toNatClampNeg + 1 = j.toNatClampNeg := by simp only [Int32.toNatClampNeg]; omega
  have hl : l.length ≤ (j + (-1 : Int32)).toNatClampNeg := by simp only [Int32.toNatClampNeg]; omega
  have hs : (j + (-1 : Int32)).toNatClampNeg < vs.length := by
    have := a.2
    simp only [Int32.toNatClampNeg] at *; omega
  refine ⟨⟨a.1, by rw [List.length_set]; exact a.2⟩, fun i hi => ?_, by omega, d, fun i hi => ?_⟩
  · have := b i hi
    rw [List.getD_eq_getElem?_getD, List.getElem?_set_ne (by omega), ← List.getD_eq_getElem?_getD]; exact this
  · cases i with
    | zero => rw [Nat.add_zero, List.getD_eq_getElem?_getD, List.getElem?_set_self hs]; rfl
    | succ i =>
      have := f i (by omega)
      rw [List.getD_eq_getElem?_getD, List.getElem?_set_ne (by omega), ← List.getD_eq_getElem?_getD, show (j + (-1 : Int32)).toNatClampNeg + (i + 1) = j.toNatClampNeg + i by omega, this]
      simp only [own_dk, List.getD_cons_succ]
theorem own_gend {vs : List Value} {l : List Int32} {z v j : Int32} {t : Nat} (I : own_gi vs l z v j t) (e : own_nd v = t) : own_has vs (l ++ own_dl v) ∧ own_cap z vs := by
  obtain ⟨a, b, c, d, f⟩ := I
  refine ⟨fun i hi => ?_, a⟩
  have hj : j.toNatClampNeg = l.length := by simp only [Int32.toNatClampNeg]; omega
  by_cases h : i < l.length
  · have := b i h
    rw [this, List.getD_eq_getElem?_getD, List.getD_eq_getElem?_getD, List.getElem?_append_left h]
  · rw [List.length_append, own_dln] at hi
    have := f (i - l.length) (by omega)
    rw [hj, show l.length + (i - l.length) = i by omega] at this
    rw [this]; subst e
    rw [List.getD_eq_getElem?_getD, List.getD_eq_getElem?_getD, List.getElem?_append_right (by omega)]; rfl
/-- reading: at i the text's rest is r -/
def own_rst (vs : List Value) (z i : Int32) (r : List Int32) : Prop := ∃ d : List Int32, own_has vs (d ++ r) ∧ own_len (d ++ r) z ∧ own_len d i ∧ (d ++ r).length ≤ 34
theorem own_r0 {vs : List Value} {z : Int32} {r : List Int32} (h : own_has vs r) (hl : own_len r z) (h34 : r.length ≤ 34) : own_rst vs z (0 : Int32) r := ⟨[], h, hl, rfl, h34⟩
theorem own_rE {vs : List Value} {z i : Int32} (h : own_rst vs z i []) : i = z := by
  obtain ⟨d, -, b, c, -⟩ := h
  rw [List.append_nil] at b
  unfold own_len at b c
  rw [← Int32.toInt_inj]; omega
theorem own_rI {vs : List Value} {z i c : Int32} {r : List Int32} (h : own_rst vs z i (c :: r)) : ¬ i < 0 ∧ i < z := by
  obtain ⟨d, -, b, e, -⟩ := h
  unfold own_len at b e
  rw [List.length_append, List.length_cons] at b
  have z0 : (0 : Int32).toInt = 0 := rfl
  rw [Int32.lt_iff_toInt_lt, Int32.lt_iff_toInt_lt]; omega
theorem own_rA {vs : List Value} {z i c : Int32} {r : List Int32} (h : own_rst vs z i (c :: r)) : own_at vs i = c := by
  obtain ⟨d, a, b, e, -⟩ := h
  have hi := own_bt e
  rw [own_rd a (by rw [hi, List.length_append, List.length_cons]; omega), hi, List.getD_eq_getElem?_getD, List.getElem?_append_right (by omega), Nat.sub_self]; rfl
theorem own_rS {vs : List Value} {z i c : Int32} {r : List Int32} (h : own_rst vs z i (c :: r)) : own_rst vs z (i + (1 : Int32)) r := by
  obtain ⟨d, a, b, e, f⟩ := h
  have q : d ++ c :: r = (d ++ [c]) ++ r := by simp
  rw [q] at a b f
  refine ⟨d ++ [c], a, b, ?_, f⟩
  exact own_lapp e (show own_len [c] (1 : Int32) from rfl) (by rw [List.length_append] at f; simpa using (by omega : (d ++ [c]).length ≤ 34))
theorem own_rN {vs : List Value} {z i v : Int32} {r : List Int32} (h : own_rst vs z i (own_dl v ++ r)) : own_rst vs z (i + own_ni v) r := by
  obtain ⟨d, a, b, e, f⟩ := h
  rw [← List.append_assoc] at a b f
  refine ⟨d ++ own_dl v, a, b, own_lapp e (own_dlen v) ?_, f⟩
  rw [List.length_append, List.length_append] at f; omega
theorem own_rP {vs : List Value} {z i : Int32} {r : List Int32} (h : own_rst vs z i r) : ¬ i < 0 := by
  obtain ⟨d, -, -, e, -⟩ := h; exact own_b0 e
theorem own_rQ {vs : List Value} {z i : Int32} {r r' : List Int32} (h : own_rst vs z i r) (e : r = r') : own_rst vs z i r' := e ▸ h
theorem own_lc {vs : List Value} {z i c : Int32} {r : List Int32} (h : own_rst vs z i (own_by c :: r)) (hc : ¬ c < 0 ∧ ¬ (255 : Int32) < c) : nar .char (own_ch (own_at vs i)) = c := by
  rw [own_rA h]; exact own_bc hc
/-- the powers of ten -/
def own_pw (j : Int32) : Int64 := Int64.ofInt (10 ^ j.toNatClampNeg)
theorem own_ten10 {j : Int32} (h : ¬ j < 0 ∧ j < (10 : Int32)) : j = 0 ∨ j = 1 ∨ j = 2 ∨ j = 3 ∨ j = 4 ∨ j = 5 ∨ j = 6 ∨ j = 7 ∨ j = 8 ∨ j = 9 := by
  have z0 : (0 : Int32).toInt = 0 := rfl
  have z : (10 : Int32).toInt = 10 := rfl
  obtain ⟨a, b⟩ := h
  rw [Int32.lt_iff_toInt_lt] at a b
  simp only [← Int32.toInt_inj, Int32.reduceToInt]; omega
theorem own_pwe {j : Int32} (h : ¬ j < 0 ∧ j < (10 : Int32)) : ([(.long (1 : Int64)), (.long (10 : Int64)), (.long (100 : Int64)), (.long (1000 : Int64)), (.long (10000 : Int64)), (.long (100000 : Int64)), (.long (1000000 : Int64)), (.long (10000000 : Int64)), (.long (100000000 : Int64)), (.long (1000000000 : Int64))] : List Value).getD j.toNatClampNeg (.long (0 : Int64)) = .long (own_pw j) := by
  rcases own_ten10 h with rfl | rfl | rfl | rfl | rfl | rfl | rfl | rfl | rfl | rfl <;> rfl
theorem own_pw0 {j : Int32} (h : ¬ j < 0 ∧ j < (10 : Int32)) : ¬ own_pw j = (0 : Int64) := by
  rcases own_ten10 h with rfl | rfl | rfl | rfl | rfl | rfl | rfl | rfl | rfl | rfl <;> decide
theorem own_pwd {j : Int32} (h : ¬ j < 0 ∧ j < (10 : Int32)) {v : Int32} (hv : ¬ v < 0) : (v.toInt64 / own_pw j).toInt = own_qt j.toNatClampNeg v.toInt := by
  have nn := own_nn hv
  have i2 := c_i2l v
  rcases own_ten10 h with rfl | rfl | rfl | rfl | rfl | rfl | rfl | rfl | rfl | rfl
  · have e : own_pw (0 : Int32) = (1 : Int64) := by decide
    have c := (c_ldiv v.toInt64 (1 : Int64) 1 rfl (by decide)).1 (by omega)
    rw [e, c]; simp only [show (0 : Int32).toNatClampNeg = 0 from rfl, own_qt]; omega
  · have e : own_pw (1 : Int32) = (10 : Int64) := by decide
    have c := (c_ldiv v.toInt64 (10 : Int64) 10 rfl (by decide)).1 (by omega)
    rw [e, c]; simp only [show (1 : Int32).toNatClampNeg = 1 from rfl, own_qt]; omega
  · have e : own_pw (2 : Int32) = (100 : Int64) := by decide
    have c := (c_ldiv v.toInt64 (100 : Int64) 100 rfl (by decide)).1 (by omega)
    rw [e, c]; simp only [show (2 : Int32).toNatClampNeg = 2 from rfl, own_qt]; omega
  · have e : own_pw (3 : Int32) = (1000 : Int64) := by decide
    have c := (c_ldiv v.toInt64 (1000 : Int64) 1000 rfl (by decide)).1 (by omega)
    rw [e, c]; simp only [show (3 : Int32).toNatClampNeg = 3 from rfl, own_qt]; omega
  · have e : own_pw (4 : Int32) = (10000 : Int64) := by decide
    have c := (c_ldiv v.toInt64 (10000 : Int64) 10000 rfl (by decide)).1 (by omega)
    rw [e, c]; simp only [show (4 : Int32).toNatClampNeg = 4 from rfl, own_qt]; omega
  · have e : own_pw (5 : Int32) = (100000 : Int64) := by decide
    have c := (c_ldiv v.toInt64 (100000 : Int64) 100000 rfl (by decide)).1 (by omega)
    rw [e, c]; simp only [show (5 : Int32).toNatClampNeg = 5 from rfl, own_qt]; omega
  · have e : own_pw (6 : Int32) = (1000000 : Int64) := by decide
    have c := (c_ldiv v.toInt64 (1000000 : Int64) 1000000 rfl (by decide)).1 (by omega)
    rw [e, c]; simp only [show (6 : Int32).toNatClampNeg = 6 from rfl, own_qt]; omega
  · have e : own_pw (7 : Int32) = (10000000 : Int64) := by decide
    have c := (c_ldiv v.toInt64 (10000000 : Int64) 10000000 rfl (by decide)).1 (by omega)
    rw [e, c]; simp only [show (7 : Int32).toNatClampNeg = 7 from rfl, own_qt]; omega
  · have e : own_pw (8 : Int32) = (100000000 : Int64) := by decide
    have c := (c_ldiv v.toInt64 (100000000 : Int64) 100000000 rfl (by decide)).1 (by omega)
    rw [e, c]; simp only [show (8 : Int32).toNatClampNeg = 8 from rfl, own_qt]; omega
  · have e : own_pw (9 : Int32) = (1000000000 : Int64) := by decide
    have c := (c_ldiv v.toInt64 (1000000000 : Int64) 1000000000 rfl (by decide)).1 (by omega)
    rw [e, c]; simp only [show (9 : Int32).toNatClampNeg = 9 from rfl, own_qt]; omega
/-- dig -/
theorem own_dgj {v n k : Int32} (hn : n = own_ni v) (hk : ¬ k < 0) (h : k < n) : ((n - (1 : Int32)) - k).toInt = own_nd v - 1 - k.toInt ∧ 0 ≤ k.toInt ∧ k.toInt < own_nd v := by
  subst hn
  have a := own_nie v
  have b := own_ndb v
  have z0 : (0 : Int32).toInt = 0 := rfl
  have z1 : (1 : Int32).toInt = 1 := rfl
  rw [Int32.lt_iff_toInt_lt] at hk h
  have c := c_isub (own_ni v) (1 : Int32)
  have d := c_isub (own_ni v - (1 : Int32)) k
  have r := rng32 (own_ni v - (1 : Int32))
  have r' := rng32 (own_ni v - (1 : Int32) - k)
  omega
theorem own_dgb {v n k : Int32} (hn : n = own_ni v) (hk : ¬ k < 0) (h : k < n) : ¬ ((n - (1 : Int32)) - k) < 0 ∧ ((n - (1 : Int32)) - k) < (10 : Int32) := by
  obtain ⟨a, b, c⟩ := own_dgj hn hk h
  have d := own_ndb v
  have z0 : (0 : Int32).toInt = 0 := rfl
  have z : (10 : Int32).toInt = 10 := rfl
  rw [Int32.lt_iff_toInt_lt, Int32.lt_iff_toInt_lt]; omega
theorem own_dgi {vs : List Value} {z i v n k : Int32} {r : List Int32} (hr : own_rst vs z i (own_dl v ++ r)) (hn : n = own_ni v) (hk : ¬ k < 0) (h : k < n) : (¬ (i + k) < 0 ∧ (i + k) < z) ∧ own_at vs (i + k) = own_d (own_nd v - 1 - k.toNatClampNeg) v := by
  obtain ⟨a, b, c⟩ := own_dgj hn hk h
  obtain ⟨d, e, f, g, q⟩ := hr
  unfold own_len at f g
  have dn := own_dln v
  simp only [List.length_append, dn] at f q
  have z0 : (0 : Int32).toInt = 0 := rfl
  have s := c_iadd i k
  have rr := rng32 (i + k)
  have ik : (i + k).toInt = i.toInt + k.toInt := by omega
  have kk : (k.toNatClampNeg : Int) = k.toInt := by simp only [Int32.toNatClampNeg]; omega
  have hik : (i + k).toNatClampNeg = d.length + k.toNatClampNeg := by simp only [Int32.toNatClampNeg] at *; omega
  refine ⟨by rw [Int32.lt_iff_toInt_lt, Int32.lt_iff_toInt_lt]; omega, ?_⟩
  rw [own_rd e (by rw [hik]; simp only [List.length_append, dn]; omega), hik, List.getD_eq_getElem?_getD, List.getElem?_append_right (by omega), show d.length + k.toNatClampNeg - d.length = k.toNatClampNeg by omega, List.getElem?_append_left (by rw [dn]; omega), ← List.getD_eq_getElem?_getD]
  exact own_dkg _ _ _ (by omega)
theorem own_chd {x : Int32} (h0 : 48 ≤ x.toInt) (h1 : x.toInt ≤ 57) : nar .char (own_ch x) = x := by
  have z0 : (0 : Int32).toInt = 0 := rfl
  have z1 : (255 : Int32).toInt = 255 := rfl
  have e : own_by x = x := by
    unfold own_by
    have a := c_i2b x
    rw [← Int32.toInt_inj]; omega
  have := own_bc (c := x) ⟨by rw [Int32.lt_iff_toInt_lt]; omega, by rw [Int32.lt_iff_toInt_lt]; omega⟩
  rw [e] at this; exact this
theorem own_dgc {vs : List Value} {z i v n k : Int32} {r : List Int32} (hr : own_rst vs z i (own_dl v ++ r)) (hv : ¬ v < 0) (hn : n = own_ni v) (hk : ¬ k < 0) (h : k < n) : nar .char (own_ch (own_at vs (i + k))) = (((48 : Int64) + (v.toInt64 / own_pw ((n - (1 : Int32)) - k) - (v.toInt64 / own_pw ((n - (1 : Int32)) - k) / (10 : Int64)) * (10 : Int64))).toInt32.toUInt32.toUInt16.toUInt32.toInt32) := by
  obtain ⟨a, b, c⟩ := own_dgj hn hk h
  have hb := own_dgb hn hk h
  rw [(own_dgi hr hn hk h).2]
  have e := own_pwd hb hv
  have kk : (k.toNatClampNeg : Int) = k.toInt := by simp only [Int32.toNatClampNeg]; omega
  have ej : ((n - (1 : Int32)) - k).toNatClampNeg = own_nd v - 1 - k.toNatClampNeg := by
    have : (((n - (1 : Int32)) - k).toNatClampNeg : Int) = ((n - (1 : Int32)) - k).toInt := by simp only [Int32.toNatClampNeg]; omega
    omega
  rw [ej] at e
  have dv := own_dv (own_nd v - 1 - k.toNatClampNeg) v
  have qp := own_qtp (own_nn hv) (own_nd v - 1 - k.toNatClampNeg)
  rw [own_chd (by omega) (by omega)]
  generalize v.toInt64 / own_pw ((n - (1 : Int32)) - k) = x at *
  have l1 := (c_lrem x (10 : Int64) 10 rfl).1 (by omega)
  generalize x - (x / (10 : Int64)) * (10 : Int64) = y at *
  have z48 : (48 : Int64).toInt = 48 := rfl
  have l2 := c_ladd (48 : Int64) y
  have r2 := rng64 ((48 : Int64) + y)
  generalize (48 : Int64) + y = w at *
  have l3 := c_l2i w
  have r3 := rng32 w.toInt32
  generalize w.toInt32 = u at *
  have l4 := c_i2c u
  rw [← Int32.toInt_inj]; omega
theorem own_lo1 {v : Int32} (h : 10 ≤ v.toInt) : 1 < own_nd v := by unfold own_nd; (repeat' split) <;> omega
theorem own_hi1 {v : Int32} (h : v.toInt < 10) : own_nd v ≤ 1 := by unfold own_nd; (repeat' split) <;> omega
theorem own_lo2 {v : Int32} (h : 100 ≤ v.toInt) : 2 < own_nd v := by unfold own_nd; (repeat' split) <;> omega
theorem own_hi2 {v : Int32} (h : v.toInt < 100) : own_nd v ≤ 2 := by unfold own_nd; (repeat' split) <;> omega
theorem own_lo3 {v : Int32} (h : 1000 ≤ v.toInt) : 3 < own_nd v := by unfold own_nd; (repeat' split) <;> omega
theorem own_hi3 {v : Int32} (h : v.toInt < 1000) : own_nd v ≤ 3 := by unfold own_nd; (repeat' split) <;> omega
theorem own_lo4 {v : Int32} (h : 10000 ≤ v.toInt) : 4 < own_nd v := by unfold own_nd; (repeat' split) <;> omega
theorem own_hi4 {v : Int32} (h : v.toInt < 10000) : own_nd v ≤ 4 := by unfold own_nd; (repeat' split) <;> omega
theorem own_lo5 {v : Int32} (h : 100000 ≤ v.toInt) : 5 < own_nd v := by unfold own_nd; (repeat' split) <;> omega
theorem own_hi5 {v : Int32} (h : v.toInt < 100000) : own_nd v ≤ 5 := by unfold own_nd; (repeat' split) <;> omega
theorem own_lo6 {v : Int32} (h : 1000000 ≤ v.toInt) : 6 < own_nd v := by unfold own_nd; (repeat' split) <;> omega
theorem own_hi6 {v : Int32} (h : v.toInt < 1000000) : own_nd v ≤ 6 := by unfold own_nd; (repeat' split) <;> omega
theorem own_lo7 {v : Int32} (h : 10000000 ≤ v.toInt) : 7 < own_nd v := by unfold own_nd; (repeat' split) <;> omega
theorem own_hi7 {v : Int32} (h : v.toInt < 10000000) : own_nd v ≤ 7 := by unfold own_nd; (repeat' split) <;> omega
theorem own_lo8 {v : Int32} (h : 100000000 ≤ v.toInt) : 8 < own_nd v := by unfold own_nd; (repeat' split) <;> omega
theorem own_hi8 {v : Int32} (h : v.toInt < 100000000) : own_nd v ≤ 8 := by unfold own_nd; (repeat' split) <;> omega
theorem own_lo9 {v : Int32} (h : 1000000000 ≤ v.toInt) : 9 < own_nd v := by unfold own_nd; (repeat' split) <;> omega
theorem own_hi9 {v : Int32} (h : v.toInt < 1000000000) : own_nd v ≤ 9 := by unfold own_nd; (repeat' split) <;> omega
theorem own_ss1 {v : Int32} (hv : ¬ v < 0) (up : (-10 : Int32) < -v) : (1 : Int32) = own_ni v := by
  have n := own_ng hv
  have p := own_nn hv
  have z2 : (-10 : Int32).toInt = -10 := rfl
  rw [Int32.lt_iff_toInt_lt] at up
  have a := (own_ndb v).1
  have b := own_hi1 (v := v) (by omega)
  have e : own_nd v = 1 := by omega
  unfold own_ni; rw [e]; rfl
theorem own_ss2 {v : Int32} (hv : ¬ v < 0) (lo : ¬ (-10 : Int32) < -v) (up : (-100 : Int32) < -v) : (2 : Int32) = own_ni v := by
  have n := own_ng hv
  have p := own_nn hv
  have z1 : (-10 : Int32).toInt = -10 := rfl
  have z2 : (-100 : Int32).toInt = -100 := rfl
  rw [Int32.lt_iff_toInt_lt] at lo up
  have a := own_lo1 (v := v) (by omega)
  have b := own_hi2 (v := v) (by omega)
  have e : own_nd v = 2 := by omega
  unfold own_ni; rw [e]; rfl
theorem own_ss3 {v : Int32} (hv : ¬ v < 0) (lo : ¬ (-100 : Int32) < -v) (up : (-1000 : Int32) < -v) : (3 : Int32) = own_ni v := by
  have n := own_ng hv
  have p := own_nn hv
  have z1 : (-100 : Int32).toInt = -100 := rfl
  have z2 : (-1000 : Int32).toInt = -1000 := rfl
  rw [Int32.lt_iff_toInt_lt] at lo up
  have a := own_lo2 (v := v) (by omega)
  have b := own_hi3 (v := v) (by omega)
  have e : own_nd v = 3 := by omega
  unfold own_ni; rw [e]; rfl
theorem own_ss4 {v : Int32} (hv : ¬ v < 0) (lo : ¬ (-1000 : Int32) < -v) (up : (-10000 : Int32) < -v) : (4 : Int32) = own_ni v := by
  have n := own_ng hv
  have p := own_nn hv
  have z1 : (-1000 : Int32).toInt = -1000 := rfl
  have z2 : (-10000 : Int32).toInt = -10000 := rfl
  rw [Int32.lt_iff_toInt_lt] at lo up
  have a := own_lo3 (v := v) (by omega)
  have b := own_hi4 (v := v) (by omega)
  have e : own_nd v = 4 := by omega
  unfold own_ni; rw [e]; rfl
theorem own_ss5 {v : Int32} (hv : ¬ v < 0) (lo : ¬ (-10000 : Int32) < -v) (up : (-100000 : Int32) < -v) : (5 : Int32) = own_ni v := by
  have n := own_ng hv
  have p := own_nn hv
  have z1 : (-10000 : Int32).toInt = -10000 := rfl
  have z2 : (-100000 : Int32).toInt = -100000 := rfl
  rw [Int32.lt_iff_toInt_lt] at lo up
  have a := own_lo4 (v := v) (by omega)
  have b := own_hi5 (v := v) (by omega)
  have e : own_nd v = 5 := by omega
  unfold own_ni; rw [e]; rfl
theorem own_ss6 {v : Int32} (hv : ¬ v < 0) (lo : ¬ (-100000 : Int32) < -v) (up : (-1000000 : Int32) < -v) : (6 : Int32) = own_ni v := by
  have n := own_ng hv
  have p := own_nn hv
  have z1 : (-100000 : Int32).toInt = -100000 := rfl
  have z2 : (-1000000 : Int32).toInt = -1000000 := rfl
  rw [Int32.lt_iff_toInt_lt] at lo up
  have a := own_lo5 (v := v) (by omega)
  have b := own_hi6 (v := v) (by omega)
  have e : own_nd v = 6 := by omega
  unfold own_ni; rw [e]; rfl
theorem own_ss7 {v : Int32} (hv : ¬ v < 0) (lo : ¬ (-1000000 : Int32) < -v) (up : (-10000000 : Int32) < -v) : (7 : Int32) = own_ni v := by
  have n := own_ng hv
  have p := own_nn hv
  have z1 : (-1000000 : Int32).toInt = -1000000 := rfl
  have z2 : (-10000000 : Int32).toInt = -10000000 := rfl
  rw [Int32.lt_iff_toInt_lt] at lo up
  have a := own_lo6 (v := v) (by omega)
  have b := own_hi7 (v := v) (by omega)
  have e : own_nd v = 7 := by omega
  unfold own_ni; rw [e]; rfl
theorem own_ss8 {v : Int32} (hv : ¬ v < 0) (lo : ¬ (-10000000 : Int32) < -v) (up : (-100000000 : Int32) < -v) : (8 : Int32) = own_ni v := by
  have n := own_ng hv
  have p := own_nn hv
  have z1 : (-10000000 : Int32).toInt = -10000000 := rfl
  have z2 : (-100000000 : Int32).toInt = -100000000 := rfl
  rw [Int32.lt_iff_toInt_lt] at lo up
  have a := own_lo7 (v := v) (by omega)
  have b := own_hi8 (v := v) (by omega)
  have e : own_nd v = 8 := by omega
  unfold own_ni; rw [e]; rfl
theorem own_ss9 {v : Int32} (hv : ¬ v < 0) (lo : ¬ (-100000000 : Int32) < -v) (up : (-1000000000 : Int32) < -v) : (9 : Int32) = own_ni v := by
  have n := own_ng hv
  have p := own_nn hv
  have z1 : (-100000000 : Int32).toInt = -100000000 := rfl
  have z2 : (-1000000000 : Int32).toInt = -1000000000 := rfl
  rw [Int32.lt_iff_toInt_lt] at lo up
  have a := own_lo8 (v := v) (by omega)
  have b := own_hi9 (v := v) (by omega)
  have e : own_nd v = 9 := by omega
  unfold own_ni; rw [e]; rfl
theorem own_ss10 {v : Int32} (hv : ¬ v < 0) (lo : ¬ (-1000000000 : Int32) < -v) : (10 : Int32) = own_ni v := by
  have n := own_ng hv
  have p := own_nn hv
  have z1 : (-1000000000 : Int32).toInt = -1000000000 := rfl
  rw [Int32.lt_iff_toInt_lt] at lo
  have a := own_lo9 (v := v) (by omega)
  have b := (own_ndb v).2
  have e : own_nd v = 10 := by omega
  unfold own_ni; rw [e]; rfl
theorem own_nu1 {v : Int32} (up : v < (10 : Int32)) : (1 : Int32) = own_ni v := by
  have z2 : (10 : Int32).toInt = 10 := rfl
  rw [Int32.lt_iff_toInt_lt] at up
  have a := (own_ndb v).1
  have b := own_hi1 (v := v) (by omega)
  have e : own_nd v = 1 := by omega
  unfold own_ni; rw [e]; rfl
theorem own_nu2 {v : Int32} (lo : ¬ v < (10 : Int32)) (up : v < (100 : Int32)) : (2 : Int32) = own_ni v := by
  have z1 : (10 : Int32).toInt = 10 := rfl
  have z2 : (100 : Int32).toInt = 100 := rfl
  rw [Int32.lt_iff_toInt_lt] at lo up
  have a := own_lo1 (v := v) (by omega)
  have b := own_hi2 (v := v) (by omega)
  have e : own_nd v = 2 := by omega
  unfold own_ni; rw [e]; rfl
theorem own_nu3 {v : Int32} (lo : ¬ v < (100 : Int32)) (up : v < (1000 : Int32)) : (3 : Int32) = own_ni v := by
  have z1 : (100 : Int32).toInt = 100 := rfl
  have z2 : (1000 : Int32).toInt = 1000 := rfl
  rw [Int32.lt_iff_toInt_lt] at lo up
  have a := own_lo2 (v := v) (by omega)
  have b := own_hi3 (v := v) (by omega)
  have e : own_nd v = 3 := by omega
  unfold own_ni; rw [e]; rfl
theorem own_nu4 {v : Int32} (lo : ¬ v < (1000 : Int32)) (up : v < (10000 : Int32)) : (4 : Int32) = own_ni v := by
  have z1 : (1000 : Int32).toInt = 1000 := rfl
  have z2 : (10000 : Int32).toInt = 10000 := rfl
  rw [Int32.lt_iff_toInt_lt] at lo up
  have a := own_lo3 (v := v) (by omega)
  have b := own_hi4 (v := v) (by omega)
  have e : own_nd v = 4 := by omega
  unfold own_ni; rw [e]; rfl
theorem own_nu5 {v : Int32} (lo : ¬ v < (10000 : Int32)) (up : v < (100000 : Int32)) : (5 : Int32) = own_ni v := by
  have z1 : (10000 : Int32).toInt = 10000 := rfl
  have z2 : (100000 : Int32).toInt = 100000 := rfl
  rw [Int32.lt_iff_toInt_lt] at lo up
  have a := own_lo4 (v := v) (by omega)
  have b := own_hi5 (v := v) (by omega)
  have e : own_nd v = 5 := by omega
  unfold own_ni; rw [e]; rfl
theorem own_nu6 {v : Int32} (lo : ¬ v < (100000 : Int32)) (up : v < (1000000 : Int32)) : (6 : Int32) = own_ni v := by
  have z1 : (100000 : Int32).toInt = 100000 := rfl
  have z2 : (1000000 : Int32).toInt = 1000000 := rfl
  rw [Int32.lt_iff_toInt_lt] at lo up
  have a := own_lo5 (v := v) (by omega)
  have b := own_hi6 (v := v) (by omega)
  have e : own_nd v = 6 := by omega
  unfold own_ni; rw [e]; rfl
theorem own_nu7 {v : Int32} (lo : ¬ v < (1000000 : Int32)) (up : v < (10000000 : Int32)) : (7 : Int32) = own_ni v := by
  have z1 : (1000000 : Int32).toInt = 1000000 := rfl
  have z2 : (10000000 : Int32).toInt = 10000000 := rfl
  rw [Int32.lt_iff_toInt_lt] at lo up
  have a := own_lo6 (v := v) (by omega)
  have b := own_hi7 (v := v) (by omega)
  have e : own_nd v = 7 := by omega
  unfold own_ni; rw [e]; rfl
theorem own_nu8 {v : Int32} (lo : ¬ v < (10000000 : Int32)) (up : v < (100000000 : Int32)) : (8 : Int32) = own_ni v := by
  have z1 : (10000000 : Int32).toInt = 10000000 := rfl
  have z2 : (100000000 : Int32).toInt = 100000000 := rfl
  rw [Int32.lt_iff_toInt_lt] at lo up
  have a := own_lo7 (v := v) (by omega)
  have b := own_hi8 (v := v) (by omega)
  have e : own_nd v = 8 := by omega
  unfold own_ni; rw [e]; rfl
theorem own_nu9 {v : Int32} (lo : ¬ v < (100000000 : Int32)) (up : v < (1000000000 : Int32)) : (9 : Int32) = own_ni v := by
  have z1 : (100000000 : Int32).toInt = 100000000 := rfl
  have z2 : (1000000000 : Int32).toInt = 1000000000 := rfl
  rw [Int32.lt_iff_toInt_lt] at lo up
  have a := own_lo8 (v := v) (by omega)
  have b := own_hi9 (v := v) (by omega)
  have e : own_nd v = 9 := by omega
  unfold own_ni; rw [e]; rfl
theorem own_nu10 {v : Int32} (lo : ¬ v < (1000000000 : Int32)) : (10 : Int32) = own_ni v := by
  have z1 : (1000000000 : Int32).toInt = 1000000000 := rfl
  rw [Int32.lt_iff_toInt_lt] at lo
  have a := own_lo9 (v := v) (by omega)
  have b := (own_ndb v).2
  have e : own_nd v = 10 := by omega
  unfold own_ni; rw [e]; rfl
theorem own_nL0 {v : Int32} (hv : ¬ v < 0) (h : ¬ (-100 : Int32) < own_iq 0 v) : 2 < own_nd v := by
  have q := own_iqv 0 hv
  have p := own_nn hv
  have r := rng32 v
  have z1 : (-100 : Int32).toInt = -100 := rfl
  have z2 : (-9 : Int32).toInt = -9 := rfl
  simp only [own_qn] at q
  rw [Int32.lt_iff_toInt_lt] at h
  exact own_lo2 (by omega)
theorem own_nE0 {v : Int32} (hv : ¬ v < 0) (h2 : ¬ own_iq 0 v < (-9 : Int32)) : own_nd v = 1 := by
  have q := own_iqv 0 hv
  have p := own_nn hv
  have r := rng32 v
  have z1 : (-100 : Int32).toInt = -100 := rfl
  have z2 : (-9 : Int32).toInt = -9 := rfl
  simp only [own_qn] at q
  rw [Int32.lt_iff_toInt_lt] at h2
  have a := (own_ndb v).1
  have b := own_hi1 (v := v) (by omega)
  omega
theorem own_nF0 {v : Int32} (hv : ¬ v < 0) (h1 : (-100 : Int32) < own_iq 0 v) (h2 : own_iq 0 v < (-9 : Int32)) : own_nd v = 2 := by
  have q := own_iqv 0 hv
  have p := own_nn hv
  have r := rng32 v
  have z1 : (-100 : Int32).toInt = -100 := rfl
  have z2 : (-9 : Int32).toInt = -9 := rfl
  simp only [own_qn] at q
  rw [Int32.lt_iff_toInt_lt] at h1 h2
  have a := own_lo1 (v := v) (by omega)
  have b := own_hi2 (v := v) (by omega)
  omega
theorem own_nL1 {v : Int32} (hv : ¬ v < 0) (h : ¬ (-100 : Int32) < own_iq 1 v) : 4 < own_nd v := by
  have q := own_iqv 1 hv
  have p := own_nn hv
  have r := rng32 v
  have z1 : (-100 : Int32).toInt = -100 := rfl
  have z2 : (-9 : Int32).toInt = -9 := rfl
  simp only [own_qn] at q
  rw [Int32.lt_iff_toInt_lt] at h
  exact own_lo4 (by omega)
theorem own_nE1 {v : Int32} (hv : ¬ v < 0) (g : ¬ (-100 : Int32) < own_iq 0 v) (h2 : ¬ own_iq 1 v < (-9 : Int32)) : own_nd v = 3 := by
  have q := own_iqv 1 hv
  have p := own_nn hv
  have r := rng32 v
  have z1 : (-100 : Int32).toInt = -100 := rfl
  have z2 : (-9 : Int32).toInt = -9 := rfl
  simp only [own_qn] at q
  have q' := own_iqv 0 hv
  simp only [own_qn] at q'
  rw [Int32.lt_iff_toInt_lt] at h2 g
  have a := own_lo2 (v := v) (by omega)
  have b := own_hi3 (v := v) (by omega)
  omega
theorem own_nF1 {v : Int32} (hv : ¬ v < 0) (h1 : (-100 : Int32) < own_iq 1 v) (h2 : own_iq 1 v < (-9 : Int32)) : own_nd v = 4 := by
  have q := own_iqv 1 hv
  have p := own_nn hv
  have r := rng32 v
  have z1 : (-100 : Int32).toInt = -100 := rfl
  have z2 : (-9 : Int32).toInt = -9 := rfl
  simp only [own_qn] at q
  rw [Int32.lt_iff_toInt_lt] at h1 h2
  have a := own_lo3 (v := v) (by omega)
  have b := own_hi4 (v := v) (by omega)
  omega
theorem own_nL2 {v : Int32} (hv : ¬ v < 0) (h : ¬ (-100 : Int32) < own_iq 2 v) : 6 < own_nd v := by
  have q := own_iqv 2 hv
  have p := own_nn hv
  have r := rng32 v
  have z1 : (-100 : Int32).toInt = -100 := rfl
  have z2 : (-9 : Int32).toInt = -9 := rfl
  simp only [own_qn] at q
  rw [Int32.lt_iff_toInt_lt] at h
  exact own_lo6 (by omega)
theorem own_nE2 {v : Int32} (hv : ¬ v < 0) (g : ¬ (-100 : Int32) < own_iq 1 v) (h2 : ¬ own_iq 2 v < (-9 : Int32)) : own_nd v = 5 := by
  have q := own_iqv 2 hv
  have p := own_nn hv
  have r := rng32 v
  have z1 : (-100 : Int32).toInt = -100 := rfl
  have z2 : (-9 : Int32).toInt = -9 := rfl
  simp only [own_qn] at q
  have q' := own_iqv 1 hv
  simp only [own_qn] at q'
  rw [Int32.lt_iff_toInt_lt] at h2 g
  have a := own_lo4 (v := v) (by omega)
  have b := own_hi5 (v := v) (by omega)
  omega
theorem own_nF2 {v : Int32} (hv : ¬ v < 0) (h1 : (-100 : Int32) < own_iq 2 v) (h2 : own_iq 2 v < (-9 : Int32)) : own_nd v = 6 := by
  have q := own_iqv 2 hv
  have p := own_nn hv
  have r := rng32 v
  have z1 : (-100 : Int32).toInt = -100 := rfl
  have z2 : (-9 : Int32).toInt = -9 := rfl
  simp only [own_qn] at q
  rw [Int32.lt_iff_toInt_lt] at h1 h2
  have a := own_lo5 (v := v) (by omega)
  have b := own_hi6 (v := v) (by omega)
  omega
theorem own_nL3 {v : Int32} (hv : ¬ v < 0) (h : ¬ (-100 : Int32) < own_iq 3 v) : 8 < own_nd v := by
  have q := own_iqv 3 hv
  have p := own_nn hv
  have r := rng32 v
  have z1 : (-100 : Int32).toInt = -100 := rfl
  have z2 : (-9 : Int32).toInt = -9 := rfl
  simp only [own_qn] at q
  rw [Int32.lt_iff_toInt_lt] at h
  exact own_lo8 (by omega)
theorem own_nE3 {v : Int32} (hv : ¬ v < 0) (g : ¬ (-100 : Int32) < own_iq 2 v) (h2 : ¬ own_iq 3 v < (-9 : Int32)) : own_nd v = 7 := by
  have q := own_iqv 3 hv
  have p := own_nn hv
  have r := rng32 v
  have z1 : (-100 : Int32).toInt = -100 := rfl
  have z2 : (-9 : Int32).toInt = -9 := rfl
  simp only [own_qn] at q
  have q' := own_iqv 2 hv
  simp only [own_qn] at q'
  rw [Int32.lt_iff_toInt_lt] at h2 g
  have a := own_lo6 (v := v) (by omega)
  have b := own_hi7 (v := v) (by omega)
  omega
theorem own_nF3 {v : Int32} (hv : ¬ v < 0) (h1 : (-100 : Int32) < own_iq 3 v) (h2 : own_iq 3 v < (-9 : Int32)) : own_nd v = 8 := by
  have q := own_iqv 3 hv
  have p := own_nn hv
  have r := rng32 v
  have z1 : (-100 : Int32).toInt = -100 := rfl
  have z2 : (-9 : Int32).toInt = -9 := rfl
  simp only [own_qn] at q
  rw [Int32.lt_iff_toInt_lt] at h1 h2
  have a := own_lo7 (v := v) (by omega)
  have b := own_hi8 (v := v) (by omega)
  omega
theorem own_nX {v : Int32} (hv : ¬ v < 0) : (-100 : Int32) < own_iq 4 v := by
  have q := own_iqv 4 hv
  have p := own_nn hv
  have r := rng32 v
  have z1 : (-100 : Int32).toInt = -100 := rfl
  have z2 : (-9 : Int32).toInt = -9 := rfl
  simp only [own_qn] at q
  rw [Int32.lt_iff_toInt_lt]; omega
theorem own_nE4 {v : Int32} (hv : ¬ v < 0) (g : ¬ (-100 : Int32) < own_iq 3 v) (h2 : ¬ own_iq 4 v < (-9 : Int32)) : own_nd v = 9 := by
  have q := own_iqv 4 hv
  have p := own_nn hv
  have r := rng32 v
  have z1 : (-100 : Int32).toInt = -100 := rfl
  have z2 : (-9 : Int32).toInt = -9 := rfl
  simp only [own_qn] at q
  have q' := own_iqv 3 hv
  simp only [own_qn] at q'
  rw [Int32.lt_iff_toInt_lt] at h2 g
  have a := own_lo8 (v := v) (by omega)
  have b := own_hi9 (v := v) (by omega)
  omega
theorem own_nF4 {v : Int32} (hv : ¬ v < 0) (h1 : (-100 : Int32) < own_iq 4 v) (h2 : own_iq 4 v < (-9 : Int32)) : own_nd v = 10 := by
  have q := own_iqv 4 hv
  have p := own_nn hv
  have r := rng32 v
  have z1 : (-100 : Int32).toInt = -100 := rfl
  have z2 : (-9 : Int32).toInt = -9 := rfl
  simp only [own_qn] at q
  rw [Int32.lt_iff_toInt_lt] at h1 h2
  have a := own_lo9 (v := v) (by omega)
  have b := (own_ndb v).2
  omega
theorem own_gst {Z : State} {h h' : Heap} {a : Addr} {k : ClassId} {z v j x : Int32} {vs : List Value} {l : List Int32} {t : Nat} (F : Arv Z h a k .byte z vs (.int 0)) (W : Wr h h' a (j + (-1 : Int32)).toNatClampNeg (.int (x.toInt8.toInt32))) (I : own_gi vs l z v j t) (ht : t < own_nd v) (e : x = own_d t v) : ∃ vs', Arv Z h' a k .byte z vs' (.int 0) ∧ own_gi vs' l z v (j + (-1 : Int32)) (t + 1) := by
  obtain ⟨c, A, q1, S, q3, H, G⟩ := F
  have hx : x.toInt8.toInt32 = own_d t v := by
    subst e
    have dv := own_dv t v
    have b := c_i2b (own_d t v)
    rw [← Int32.toInt_inj]; omega
  have hl : (j + (-1 : Int32)).toNatClampNeg < vs.length := by
    obtain ⟨e1, e2, e3⟩ := own_gj I ht
    have := I.1.2
    simp only [Int32.toNatClampNeg] at *; omega
  rw [hx] at W
  exact ⟨_, Arv.set A q1 S q3 H G (by rw [← hx]; exact fits_nar_byte _) W _ rfl hl, own_gis I ht⟩
theorem own_lcx {vs : List Value} {z i x c : Int32} {r : List Int32} (h : own_rst vs z i (x :: r)) (hx : nar .char (own_ch x) = c) : nar .char (own_ch (own_at vs i)) = c := by rw [own_rA h]; exact hx
theorem own_ltt {a b c : Int32} (h : a < b) (hb : ¬ c < b) : a < c := by
  rw [Int32.lt_iff_toInt_lt] at *; omega
theorem own_nb {x : Int32} (h : x = (0 : Int32) ∨ x = (1 : Int32)) : narrow .boolean (.int x) = .int x := by rcases h with rfl | rfl <;> rfl
theorem own_fb {x : Int32} (h : x = (0 : Int32) ∨ x = (1 : Int32)) : fits .boolean (.int x) = true := by rcases h with rfl | rfl <;> rfl
theorem own_pt (x : Int32) : ¬ ((1 : Int32) + ((x &&& (2147483647 : Int32)) % (65535 : Int32))) < 0 ∧ ¬ (65535 : Int32) < ((1 : Int32) + ((x &&& (2147483647 : Int32)) % (65535 : Int32))) := by
  have z0 : (0 : Int32).toInt = 0 := rfl
  have z1 : (1 : Int32).toInt = 1 := rfl
  have z : (65535 : Int32).toInt = 65535 := rfl
  have m := c_mask x (2147483647 : Int32) 31 (by decide) (by decide)
  generalize (x &&& (2147483647 : Int32)) = y at *
  have r := (c_irem y (65535 : Int32) 65535 rfl).1 (by omega)
  generalize y % (65535 : Int32) = w at *
  have a := c_iadd (1 : Int32) w
  have b := rng32 ((1 : Int32) + w)
  rw [Int32.lt_iff_toInt_lt, Int32.lt_iff_toInt_lt]; omega
theorem own_db0 (x : Int32) : ¬ (x &&& (2147483647 : Int32)) < 0 := by
  have z0 : (0 : Int32).toInt = 0 := rfl
  have m := c_mask x (2147483647 : Int32) 31 (by decide) (by decide)
  rw [Int32.lt_iff_toInt_lt]; omega
/-- the law's text -/
def own_tl (x : Int32) : List Int32 := if x = (0 : Int32) then [] else [115]
def own_sch (x : Int32) : List Int32 := if x = (0 : Int32) then [114, 101, 100, 105, 115] else [114, 101, 100, 105, 115, 115]
def own_lg (x : Int32) : List Int32 := if x = (0 : Int32) then [] else [42, 42, 42, 64]
def own_t2 (n c2 : Int32) : List Int32 := if n < (3 : Int32) then [] else [own_by c2]
def own_t1 (n c1 c2 : Int32) : List Int32 := if n < (2 : Int32) then [] else own_by c1 :: own_t2 n c2
def own_t0 (n c0 c1 c2 : Int32) : List Int32 := if n < (1 : Int32) then [] else own_by c0 :: own_t1 n c1 c2
theorem own_sh0 {x : Int32} (h : x = (0 : Int32)) : own_sch x = [114, 101, 100, 105, 115] := if_pos h
theorem own_sh1 {x : Int32} (h : ¬ x = (0 : Int32)) : own_sch x = [114, 101, 100, 105, 115, 115] := if_neg h
theorem own_schl (x : Int32) : (own_sch x).length ≤ 6 := by unfold own_sch; split <;> decide
theorem own_scht (x : Int32) : own_sch x = 114 :: 101 :: 100 :: 105 :: 115 :: own_tl x := by unfold own_sch own_tl; split <;> rfl
theorem own_tl0 {x : Int32} {r : List Int32} (h : x = (0 : Int32)) : own_tl x ++ r = r := by unfold own_tl; rw [if_pos h]; rfl
theorem own_tl1 {x : Int32} {r : List Int32} (h : ¬ x = (0 : Int32)) : own_tl x ++ r = (115 : Int32) :: r := by unfold own_tl; rw [if_neg h]; rfl
theorem own_lg0 {x : Int32} {r : List Int32} (h : x = (0 : Int32)) : own_lg x ++ r = r := by unfold own_lg; rw [if_pos h]; rfl
theorem own_lg1 {x : Int32} {r : List Int32} (h : ¬ x = (0 : Int32)) : own_lg x ++ r = (42 : Int32) :: (42 : Int32) :: (42 : Int32) :: (64 : Int32) :: r := by unfold own_lg; rw [if_neg h]; rfl
theorem own_t00 {n c0 c1 c2 : Int32} {r : List Int32} (h : n < (1 : Int32)) : own_t0 n c0 c1 c2 ++ r = own_t1 n c1 c2 ++ r := by unfold own_t0 own_t1; rw [if_pos h, if_pos (own_ltt h (by decide))]
theorem own_t01 {n c0 c1 c2 : Int32} {r : List Int32} (h : ¬ n < (1 : Int32)) : own_t0 n c0 c1 c2 ++ r = own_by c0 :: (own_t1 n c1 c2 ++ r) := by unfold own_t0; rw [if_neg h]; rfl
theorem own_t10 {n c1 c2 : Int32} {r : List Int32} (h : n < (2 : Int32)) : own_t1 n c1 c2 ++ r = own_t2 n c2 ++ r := by unfold own_t1 own_t2; rw [if_pos h, if_pos (own_ltt h (by decide))]
theorem own_t11 {n c1 c2 : Int32} {r : List Int32} (h : ¬ n < (2 : Int32)) : own_t1 n c1 c2 ++ r = own_by c1 :: (own_t2 n c2 ++ r) := by unfold own_t1; rw [if_neg h]; rfl
theorem own_t20 {n c2 : Int32} {r : List Int32} (h : n < (3 : Int32)) : own_t2 n c2 ++ r = r := by unfold own_t2; rw [if_pos h]; rfl
theorem own_t21 {n c2 : Int32} {r : List Int32} (h : ¬ n < (3 : Int32)) : own_t2 n c2 ++ r = own_by c2 :: r := by unfold own_t2; rw [if_neg h]; rfl
theorem own_clt {n c0 c1 c2 : Int32} (h : n = (0 : Int32) ∨ n = (1 : Int32) ∨ n = (2 : Int32) ∨ n = (3 : Int32)) : own_cl n c0 c1 c2 = own_t0 n c0 c1 c2 := by
  rcases h with rfl | rfl | rfl | rfl <;> rfl
theorem own_lh0 {x : Int32} (h : x = (0 : Int32)) : own_lg x = [] := if_pos h
theorem own_lh1 {x : Int32} (h : ¬ x = (0 : Int32)) : own_lg x = [42, 42, 42, 64] := if_neg h
theorem own_lgl (x : Int32) : (own_lg x).length ≤ 4 := by unfold own_lg; split <;> decide
theorem own_fl {vs : List Value} {z tl pw n c0 c1 c2 po db : Int32} (h : own_has vs (((((((own_sch tl ++ ([58, 47, 47] : List Int32)) ++ own_lg pw) ++ own_cl n c0 c1 c2) ++ ([58] : List Int32)) ++ own_dl po) ++ ([47] : List Int32)) ++ own_dl db)) (hl : own_len (((((((own_sch tl ++ ([58, 47, 47] : List Int32)) ++ own_lg pw) ++ own_cl n c0 c1 c2) ++ ([58] : List Int32)) ++ own_dl po) ++ ([47] : List Int32)) ++ own_dl db) z) (hn : n = (0 : Int32) ∨ n = (1 : Int32) ∨ n = (2 : Int32) ∨ n = (3 : Int32)) (h5 : ¬ (65535 : Int32) < po) : own_rst vs z (0 : Int32) ((114 : Int32) :: (101 : Int32) :: (100 : Int32) :: (105 : Int32) :: (115 : Int32) :: (own_tl tl ++ ((58 : Int32) :: (47 : Int32) :: (47 : Int32) :: (own_lg pw ++ (own_t0 n c0 c1 c2 ++ ((58 : Int32) :: (own_dl po ++ ((47 : Int32) :: (own_dl db ++ []))))))))) := by
  have q : (((((((own_sch tl ++ ([58, 47, 47] : List Int32)) ++ own_lg pw) ++ own_cl n c0 c1 c2) ++ ([58] : List Int32)) ++ own_dl po) ++ ([47] : List Int32)) ++ own_dl db) = ((114 : Int32) :: (101 : Int32) :: (100 : Int32) :: (105 : Int32) :: (115 : Int32) :: (own_tl tl ++ ((58 : Int32) :: (47 : Int32) :: (47 : Int32) :: (own_lg pw ++ (own_t0 n c0 c1 c2 ++ ((58 : Int32) :: (own_dl po ++ ((47 : Int32) :: (own_dl db ++ []))))))))) := by
    rw [own_scht, own_clt hn]; simp only [List.append_assoc, List.cons_append, List.nil_append, List.append_nil]
  have k := own_clk (c0 := c0) (c1 := c1) (c2 := c2) hn
  have a1 := own_schl tl
  have a2 := own_dl5 h5
  have a3 := own_dl10 db
  have a4 := own_lgl pw
  rw [← q]
  exact own_r0 h hl (by simp only [List.length_append, List.length_cons, List.length_nil]; omega)
def own_gx (vs : List Value) (l : List Int32) (z v j i : Int32) : Prop := ∃ m, i = own_iq m v ∧ own_gi vs l z v j (2 * m) ∧ (-100 : Int32) < own_iq m v ∧ 2 * m < own_nd v ∧ (own_iq m v < (-9 : Int32) → own_nd v = 2 * m + 2) ∧ (¬ own_iq m v < (-9 : Int32) → own_nd v = 2 * m + 1)
section OwnTbl
variable {args : Array Value} {s : State}
theorem own_eqX {t u : Term} {k : Int32} {idx : List Nat} (h : (Jvm.Cond.eq t u).value args s none s idx = some true) (hu : u.eval args s none idx s = some (.int k)) : t.eval args s none idx s = some (.int k) := by
  obtain ⟨x, y, h1, h2, h3, h4⟩ := cmp_v (Or.inl h)
  obtain rfl : y = .int k := Option.some.inj (h2.symm.trans hu)
  obtain ⟨z, rfl⟩ := h4
  have q := gotT (Cond.eq_ints h1 h2) h
  rw [h1, q]
theorem own_tbl {t : Term} (hx : (Jvm.Cond.exactly t "[B").value args s none s [] = some true) (hl : (Term.length t).eval args s none [] s = some (.int (100 : Int32))) (ha : (Jvm.Cond.arrayClass .byte).before args s = true) : ∃ a cl, t.eval args s none [] s = some (.ref a) ∧ Arr s s.heap a cl .byte ∧ cl.slots.size = 100 := by
  obtain ⟨a, c, cell, k, h1, h2, h3, h4, h5, h6, -⟩ := Cond.exactly_spec (Cond.before_iff.mpr hx)
  obtain ⟨a', cl, g1, g2, g3⟩ := Term.length_spec hl
  cases h1.symm.trans g1
  obtain ⟨b1, b2, b3, -⟩ := State.arrayAt?_spec g2
  cases h3.symm.trans b1
  obtain ⟨c', k', comp, n1, n2, n3⟩ := Cond.arrayClass_spec ha
  have eBA : ("[" ++ FieldType.toString .byte) = "[B" := by decide
  rw [eBA] at n1
  cases h2.symm.trans n1
  cases h4.symm.trans n2
  have A : Arr s s.heap a cell .byte := ⟨h3, ⟨(fun q h => by rw [h] at h5; cases h5), k, (by rw [h6]; exact h4), comp, n3⟩, b2⟩
  obtain ⟨l1, l2⟩ := own_len' hl h1 A
  refine ⟨a, cell, h1, A, ?_⟩
  have e := congrArg Int32.toInt l2
  rw [len_toInt l1] at e
  have z : (100 : Int32).toInt = 100 := rfl
  omega
theorem own_startD {a : Addr} {cl : Cell} (hf : Fit s) (A : Arr s s.heap a cl .byte) (e : cl.slots.size = 100) : Arv s s.heap a cl.cls .byte (100 : Int32) cl.slots.toList (.int 0) := by
  have q : cl.slots.size < 2 ^ 31 := by omega
  refine ⟨cl, A, rfl, by rw [e]; rfl, by decide, fun i hi => by simp [List.getD_eq_getElem?_getD, hi], fun i hi => ?_⟩
  have e1 : (Nat.toInt32 i).toNatClampNeg = i := by simp only [Int32.toNatClampNeg, len_toInt (Nat.lt_trans hi q)]; rfl
  exact elem_fits (j := Nat.toInt32 i) hf A (idx_in hi q) (by rw [e1]; simp [List.getD_eq_getElem?_getD, hi])
theorem own_tat {t u : Term} {a : Addr} {cl : Cell} {f : Int32 → Int32} (ht : ∀ idx, t.eval args s none idx s = some (.ref a)) (A : Arr s s.heap a cl .byte) (e : cl.slots.size = 100) (hw : (Jvm.Cond.all t (Jvm.Cond.eq (Term.elem t (Term.index 0)) u)).value args s none s [] = some true) (hu : ∀ i : Nat, u.eval args s none [i] s = some (.int (f i.toInt32))) (j : Int32) (h : ¬ j < 0 ∧ j < (100 : Int32)) : own_at cl.slots.toList j = f j := by
  have ha : s.arrayAt? a = some cl := Arr.fin (Vm.Alike.refl _) A
  have z0 : (0 : Int32).toInt = 0 := rfl
  have z : (100 : Int32).toInt = 100 := rfl
  obtain ⟨h1, h2⟩ := h
  rw [Int32.lt_iff_toInt_lt] at h1 h2
  have hi : j.toNatClampNeg < cl.slots.size := by rw [e]; simp only [Int32.toNatClampNeg]; omega
  have ej : (Nat.toInt32 j.toNatClampNeg) = j := by
    rw [← Int32.toInt_inj, len_toInt (by omega)]; simp only [Int32.toNatClampNeg]; omega
  have w := Cond.all_elim (ht []) ha hw _ hi
  have v := own_eqX w (hu _)
  rw [ej] at v
  rw [elem_f (ht _) (show (Term.index 0).eval args s none [j.toNatClampNeg] s = some (.int (Nat.toInt32 j.toNatClampNeg)) from rfl) ha (by rw [ej, Int32.lt_iff_toInt_lt]; omega), ej] at v
  simp only [own_at, List.getD_eq_getElem?_getD, Array.getElem?_toList, v, Option.getD_some]
theorem own_doS {t : Term} {a : Addr} {cl : Cell} (ht : ∀ idx, t.eval args s none idx s = some (.ref a)) (A : Arr s s.heap a cl .byte) (e : cl.slots.size = 100) (hw : (Jvm.Cond.all t (Jvm.Cond.eq (Term.elem t (Term.index 0)) (Term.add (Term.int (48 : Int32)) (Term.rem (Term.index 0) (Term.int (10 : Int32)))))).value args s none s [] = some true) : own_do cl.slots.toList := fun j hj => by
  rw [own_tat (f := fun x => (48 : Int32) + x % (10 : Int32)) ht A e hw (fun i => by simp [Term.eval]) j hj]
  have z0 : (0 : Int32).toInt = 0 := rfl
  have z48 : (48 : Int32).toInt = 48 := rfl
  obtain ⟨h1, h2⟩ := hj
  rw [Int32.lt_iff_toInt_lt] at h1
  have r := (c_irem j (10 : Int32) 10 rfl).1 (by omega)
  have b := c_iadd (48 : Int32) (j % (10 : Int32))
  have g := rng32 ((48 : Int32) + j % (10 : Int32))
  show ((48 : Int32) + j % (10 : Int32)).toInt = _
  omega
theorem own_dtS {t : Term} {a : Addr} {cl : Cell} (ht : ∀ idx, t.eval args s none idx s = some (.ref a)) (A : Arr s s.heap a cl .byte) (e : cl.slots.size = 100) (hw : (Jvm.Cond.all t (Jvm.Cond.eq (Term.elem t (Term.index 0)) (Term.add (Term.int (48 : Int32)) (Term.div (Term.index 0) (Term.int (10 : Int32)))))).value args s none s [] = some true) : own_dt cl.slots.toList := fun j hj => by
  rw [own_tat (f := fun x => (48 : Int32) + x / (10 : Int32)) ht A e hw (fun i => by simp [Term.eval]) j hj]
  have z0 : (0 : Int32).toInt = 0 := rfl
  have z100 : (100 : Int32).toInt = 100 := rfl
  have z48 : (48 : Int32).toInt = 48 := rfl
  obtain ⟨h1, h2⟩ := hj
  rw [Int32.lt_iff_toInt_lt] at h1 h2
  have r := (c_idiv j (10 : Int32) 10 rfl (by decide)).1 (by omega)
  have b := c_iadd (48 : Int32) (j / (10 : Int32))
  have g := rng32 ((48 : Int32) + j / (10 : Int32))
  show ((48 : Int32) + j / (10 : Int32)).toInt = _
  omega
end OwnTbl
theorem own_sti {args : Array Value} {s : State} {C n d : String} {v : Value} (h : (Term.static C n d).eval args s none [] s = some v) : ∀ idx, (Term.static C n d).eval args s none idx s = some v := fun idx => by simpa only [Term.eval] using h
abbrev Tb12 : List (Nat × Instr × Nat) := [(0, .getstatic 38, 3), (3, .ifCond .eq 10, 3), (6, .aload_n 0, 1), (7, .getfield 15, 3), (10, .goto 4, 3), (14, .ireturn, 1)]
theorem D12 : own_tab jdk_42_method_152_code Tb12 := by decide +kernel
theorem pn_12 : plainName "java/lang/String" = true := by first | (simp [plainName, overriddenIn]; done) | decide +kernel
abbrev Tb34 : List (Nat × Instr × Nat) := [(0, .getstatic 38, 3), (3, .ifCond .eq 14, 3), (6, .aload_n 0, 1), (7, .getfield 15, 3), (10, .ifCond .ne 7, 3), (13, .iconst 1, 1), (14, .goto 4, 3), (18, .ireturn, 1)]
theorem D34 : own_tab jdk_42_method_154_code Tb34 := by decide +kernel
abbrev Tb11 : List (Nat × Instr × Nat) := [(0, .aload_n 0, 1), (1, .getfield 9, 3), (4, .arraylength, 1), (5, .aload_n 0, 1), (6, .invokevirtual 335, 3), (9, .ishr, 1), (10, .ireturn, 1)]
theorem D11 : own_tab jdk_42_method_54_code Tb11 := by decide +kernel
theorem pd0 : parseMethodDescriptor "()B" = some ⟨[], some .byte⟩ := by decide +kernel
abbrev Tb45 : List (Nat × Instr × Nat) := [(0, .iload_n 0, 1), (1, .iload_n 1, 1), (2, .if_icmp .lt 7, 3), (9, .iload_n 1, 1), (10, .ireturn, 1), (5, .iload_n 0, 1), (6, .goto 4, 3)]
theorem D45 : own_tab jdk_29_method_65_code Tb45 := by decide +kernel
abbrev Tb31 : List (Nat × Instr × Nat) := [(0, .iload_n 0, 1), (1, .iload_n 1, 1), (2, .if_icmp .gt 7, 3), (9, .iload_n 1, 1), (10, .ireturn, 1), (5, .iload_n 0, 1), (6, .goto 4, 3)]
theorem D31 : own_tab jdk_29_method_69_code Tb31 := by decide +kernel
abbrev Tb30 : List (Nat × Instr × Nat) := [(0, .iload_n 1, 1), (1, .iload_n 0, 1), (2, .if_icmp .ge 35, 3), (37, .return_, 1)]
theorem D30 : own_tab jdk_65_method_131_code Tb30 := by decide +kernel
theorem pn_30 : plainName "java/util/Arrays" = true := by first | (simp [plainName, overriddenIn]; done) | decide +kernel
abbrev Tb37 : List (Nat × Instr × Nat) := [(0, .iload_n 0, 1), (1, .ifCond .lt 8, 3), (4, .iload_n 0, 1), (5, .iload_n 1, 1), (6, .if_icmp .lt 10, 3), (16, .iload_n 0, 1), (17, .ireturn, 1)]
theorem D37 : own_tab jdk_41_method_11_code Tb37 := by decide +kernel
theorem pn_37 : plainName "jdk/internal/util/Preconditions" = true := by first | (simp [plainName, overriddenIn]; done) | decide +kernel
abbrev Tb36 : List (Nat × Instr × Nat) := [(0, .iload_n 0, 1), (1, .iload_n 1, 1), (2, .getstatic 1053, 3), (5, .invokestatic 1059, 3), (8, .pop, 1), (9, .return_, 1)]
theorem D36 : own_tab jdk_42_method_155_code Tb36 := by decide +kernel
theorem pd1 : parseMethodDescriptor "(IILjava/util/function/BiFunction;)I" = some ⟨[.int, .int, (.object "java/util/function/BiFunction")], some .int⟩ := by decide +kernel
abbrev Tb35 : List (Nat × Instr × Nat) := [(0, .iload_n 1, 1), (1, .aload_n 0, 1), (2, .arraylength, 1), (3, .invokestatic 9, 3), (6, .aload_n 0, 1), (7, .iload_n 1, 1), (8, .baload, 1), (9, .sipush 255, 3), (12, .iand, 1), (13, .i2c, 1), (14, .ireturn, 1)]
theorem D35 : own_tab jdk_43_method_2_code Tb35 := by decide +kernel
theorem pd2 : parseMethodDescriptor "(II)V" = some ⟨[.int, .int], none⟩ := by decide +kernel
theorem pn_35 : plainName "java/lang/StringLatin1" = true := by first | (simp [plainName, overriddenIn]; done) | decide +kernel
abbrev Tb33 : List (Nat × Instr × Nat) := [(0, .aload_n 0, 1), (1, .invokevirtual 492, 3), (4, .ifCond .eq 12, 3), (7, .aload_n 0, 1), (8, .getfield 9, 3), (11, .iload_n 1, 1), (12, .invokestatic 495, 3), (15, .ireturn, 1)]
theorem D33 : own_tab jdk_42_method_56_code Tb33 := by decide +kernel
theorem pd3 : parseMethodDescriptor "()Z" = some ⟨[], some .boolean⟩ := by decide +kernel
theorem pd4 : parseMethodDescriptor "([BI)C" = some ⟨[(.array .byte), .int], some .char⟩ := by decide +kernel
abbrev Tb29 : List (Nat × Instr × Nat) := [(0, .iload_n 1, 1), (1, .iload_n 2, 1), (2, .invokestatic 343, 3), (5, .iload_n 2, 1), (6, .iload_n 1, 1), (7, .isub, 1), (8, .istore_n 3, 1), (9, .iload_n 3, 1), (10, .newarray .byte, 2), (12, .astore 4, 2), (14, .aload_n 0, 1), (15, .iload_n 1, 1), (16, .aload 4, 2), (18, .iconst 0, 1), (19, .aload_n 0, 1), (20, .arraylength, 1), (21, .iload_n 1, 1), (22, .isub, 1), (23, .iload_n 3, 1), (24, .invokestatic 304, 3), (27, .invokestatic 150, 3), (30, .aload 4, 2), (32, .areturn, 1)]
theorem D29 : own_tab jdk_65_method_133_code Tb29 := by decide +kernel
theorem pd5 : parseMethodDescriptor "(II)I" = some ⟨[.int, .int], some .int⟩ := by decide +kernel
abbrev Tb28 : List (Nat × Instr × Nat) := [(0, .iload_n 1, 1), (1, .ifCond .ne 9, 3), (4, .iload_n 2, 1), (5, .aload_n 0, 1), (6, .arraylength, 1), (7, .if_icmp .eq 10, 3), (17, .aload_n 0, 1), (18, .invokevirtual 310, 3), (21, .checkcast 311, 3), (24, .areturn, 1), (10, .aload_n 0, 1), (11, .iload_n 1, 1), (12, .iload_n 2, 1), (13, .invokestatic 339, 3), (16, .areturn, 1)]
theorem D28 : own_tab jdk_65_method_132_code Tb28 := by decide +kernel
theorem pd6 : parseMethodDescriptor "([BII)[B" = some ⟨[(.array .byte), .int, .int], some (.array .byte)⟩ := by decide +kernel
abbrev Tb8 : List (Nat × Instr × Nat) := [(0, .aload_n 0, 1), (1, .invokespecial 3, 3), (4, .getstatic 18, 3), (7, .ifCond .eq 18, 3), (10, .aload_n 0, 1), (11, .iload_n 1, 1), (12, .newarray .byte, 2), (14, .putfield 15, 3), (17, .aload_n 0, 1), (18, .iconst 0, 1), (19, .putfield 22, 3), (22, .goto 16, 3), (38, .return_, 1)]
theorem D8 : own_tab jdk_68_method_2_code Tb8 := by decide +kernel
theorem pn_8 : plainName "java/lang/AbstractStringBuilder" = true := by first | (simp [plainName, overriddenIn]; done) | decide +kernel
abbrev Tb7 : List (Nat × Instr × Nat) := [(0, .aload_n 0, 1), (1, .bipush 16, 2), (3, .invokespecial 1, 3), (6, .return_, 1)]
theorem D7 : own_tab jdk_67_method_1_code Tb7 := by decide +kernel
theorem pd7 : parseMethodDescriptor "(I)V" = some ⟨[.int], none⟩ := by decide +kernel
theorem pn_7 : plainName "java/lang/StringBuilder" = true := by first | (simp [plainName, overriddenIn]; done) | decide +kernel
abbrev Tb25 : List (Nat × Instr × Nat) := [(0, .aload_n 0, 1), (1, .getfield 15, 3), (4, .areturn, 1)]
theorem D25 : own_tab jdk_68_method_64_code Tb25 := by decide +kernel
abbrev Tb27 : List (Nat × Instr × Nat) := [(0, .aload_n 0, 1), (1, .getfield 79, 3), (4, .ireturn, 1)]
theorem D27 : own_tab jdk_68_method_6_code Tb27 := by decide +kernel
abbrev Tb26 : List (Nat × Instr × Nat) := [(0, .aload_n 0, 1), (1, .invokespecial 343, 3), (4, .ireturn, 1)]
theorem D26 : own_tab jdk_67_method_93_code Tb26 := by decide +kernel
theorem pd8 : parseMethodDescriptor "()I" = some ⟨[], some .int⟩ := by decide +kernel
abbrev Tb20 : List (Nat × Instr × Nat) := [(0, .getstatic 18, 3), (3, .ifCond .eq 14, 3), (6, .aload_n 0, 1), (7, .getfield 22, 3), (10, .ifCond .ne 7, 3), (13, .iconst 1, 1), (14, .goto 4, 3), (18, .ireturn, 1)]
theorem D20 : own_tab jdk_68_method_68_code Tb20 := by decide +kernel
abbrev Tb44 : List (Nat × Instr × Nat) := [(0, .iload_n 0, 1), (1, .iload_n 1, 1), (2, .iload_n 2, 1), (3, .invokestatic 194, 3), (6, .iadd, 1), (7, .istore_n 3, 1), (8, .iconst 0, 1), (9, .iload_n 3, 1), (10, .if_icmp .ge 11, 3), (13, .iload_n 3, 1), (14, .ldc 200, 2), (16, .if_icmp .gt 5, 3), (19, .iload_n 3, 1), (20, .ireturn, 1)]
theorem D44 : own_tab jdk_48_method_27_code Tb44 := by decide +kernel
theorem pn_44 : plainName "jdk/internal/util/ArraysSupport" = true := by first | (simp [plainName, overriddenIn]; done) | decide +kernel
abbrev Tb43 : List (Nat × Instr × Nat) := [(0, .aload_n 0, 1), (1, .getfield 15, 3), (4, .arraylength, 1), (5, .istore_n 2, 1), (6, .iload_n 1, 1), (7, .aload_n 0, 1), (8, .getfield 22, 3), (11, .ishl, 1), (12, .istore_n 3, 1), (13, .iload_n 3, 1), (14, .iload_n 2, 1), (15, .isub, 1), (16, .istore 4, 2), (18, .iload_n 2, 1), (19, .iload 4, 2), (21, .iload_n 2, 1), (22, .iconst 2, 1), (23, .aload_n 0, 1), (24, .getfield 22, 3), (27, .ishl, 1), (28, .iadd, 1), (29, .invokestatic 114, 3), (32, .istore 5, 2), (34, .iload 5, 2), (36, .ldc 39, 2), (38, .if_icmp .ne 13, 3), (51, .iload 5, 2), (53, .aload_n 0, 1), (54, .getfield 22, 3), (57, .ishr, 1), (58, .ireturn, 1)]
theorem D43 : own_tab jdk_68_method_10_code Tb43 := by decide +kernel
theorem pd9 : parseMethodDescriptor "(III)I" = some ⟨[.int, .int, .int], some .int⟩ := by decide +kernel
abbrev Tb46 : List (Nat × Instr × Nat) := [(0, .iload_n 1, 1), (1, .aload_n 0, 1), (2, .arraylength, 1), (3, .if_icmp .ne 11, 3), (14, .iload_n 1, 1), (15, .newarray .byte, 2), (17, .astore_n 2, 1), (18, .aload_n 0, 1), (19, .iconst 0, 1), (20, .aload_n 2, 1), (21, .iconst 0, 1), (22, .aload_n 0, 1), (23, .arraylength, 1), (24, .iload_n 1, 1), (25, .invokestatic 304, 3), (28, .invokestatic 150, 3), (31, .aload_n 2, 1), (32, .areturn, 1)]
theorem D46 : own_tab jdk_65_method_121_code Tb46 := by decide +kernel
abbrev Tb13 : List (Nat × Instr × Nat) := [(0, .aload_n 0, 1), (1, .getfield 15, 3), (4, .arraylength, 1), (5, .aload_n 0, 1), (6, .getfield 22, 3), (9, .ishr, 1), (10, .istore_n 2, 1), (11, .iload_n 1, 1), (12, .iload_n 2, 1), (13, .isub, 1), (14, .ifCond .le 24, 3), (38, .return_, 1), (17, .aload_n 0, 1), (18, .aload_n 0, 1), (19, .getfield 15, 3), (22, .aload_n 0, 1), (23, .iload_n 1, 1), (24, .invokevirtual 104, 3), (27, .aload_n 0, 1), (28, .getfield 22, 3), (31, .ishl, 1), (32, .invokestatic 108, 3), (35, .putfield 15, 3)]
theorem D13 : own_tab jdk_68_method_9_code Tb13 := by decide +kernel
theorem pd10 : parseMethodDescriptor "(I)I" = some ⟨[.int], some .int⟩ := by decide +kernel
theorem pd11 : parseMethodDescriptor "([BI)[B" = some ⟨[(.array .byte), .int], some (.array .byte)⟩ := by decide +kernel
abbrev Tb15 : List (Nat × Instr × Nat) := [(0, .getstatic 18, 3), (3, .ifCond .eq 18, 3), (6, .aload_n 0, 1), (7, .getfield 22, 3), (10, .aload_n 1, 1), (11, .invokevirtual 40, 3), (14, .if_icmp .eq 7, 3), (21, .return_, 1)]
theorem D15 : own_tab jdk_68_method_71_code Tb15 := by decide +kernel
abbrev Tb16 : List (Nat × Instr × Nat) := [(0, .aload_n 0, 1), (1, .invokevirtual 335, 3), (4, .iload_n 3, 1), (5, .if_icmp .ne 23, 3), (8, .aload_n 0, 1), (9, .getfield 9, 3), (12, .iconst 0, 1), (13, .aload_n 1, 1), (14, .iload_n 2, 1), (15, .iload_n 3, 1), (16, .ishl, 1), (17, .aload_n 0, 1), (18, .getfield 9, 3), (21, .arraylength, 1), (22, .invokestatic 212, 3), (25, .goto 18, 3), (43, .return_, 1)]
theorem D16 : own_tab jdk_42_method_147_code Tb16 := by decide +kernel
abbrev Tb14 : List (Nat × Instr × Nat) := [(0, .aload_n 0, 1), (1, .aload_n 2, 1), (2, .invokevirtual 397, 3), (5, .aload_n 2, 1), (6, .aload_n 0, 1), (7, .getfield 15, 3), (10, .iload_n 1, 1), (11, .aload_n 0, 1), (12, .getfield 22, 3), (15, .invokevirtual 399, 3), (18, .return_, 1)]
theorem D14 : own_tab jdk_68_method_73_code Tb14 := by decide +kernel
theorem pd12 : parseMethodDescriptor "(Ljava/lang/String;)V" = some ⟨[(.object "java/lang/String")], none⟩ := by decide +kernel
theorem pd13 : parseMethodDescriptor "([BIB)V" = some ⟨[(.array .byte), .int, .byte], none⟩ := by decide +kernel
abbrev Tb10 : List (Nat × Instr × Nat) := [(0, .aload_n 1, 1), (1, .ifnonnull 8, 3), (9, .aload_n 1, 1), (10, .invokevirtual 32, 3), (13, .istore_n 2, 1), (14, .aload_n 0, 1), (15, .aload_n 0, 1), (16, .getfield 79, 3), (19, .iload_n 2, 1), (20, .iadd, 1), (21, .invokevirtual 100, 3), (24, .aload_n 0, 1), (25, .aload_n 0, 1), (26, .getfield 79, 3), (29, .aload_n 1, 1), (30, .invokevirtual 208, 3), (33, .aload_n 0, 1), (34, .dup, 1), (35, .getfield 79, 3), (38, .iload_n 2, 1), (39, .iadd, 1), (40, .putfield 79, 3), (43, .aload_n 0, 1), (44, .areturn, 1)]
theorem D10 : own_tab jdk_68_method_22_code Tb10 := by decide +kernel
theorem pd14 : parseMethodDescriptor "(ILjava/lang/String;)V" = some ⟨[.int, (.object "java/lang/String")], none⟩ := by decide +kernel
abbrev Tb9 : List (Nat × Instr × Nat) := [(0, .aload_n 0, 1), (1, .aload_n 1, 1), (2, .invokespecial 29, 3), (5, .pop, 1), (6, .aload_n 0, 1), (7, .areturn, 1)]
theorem D9 : own_tab jdk_67_method_7_code Tb9 := by decide +kernel
theorem pd15 : parseMethodDescriptor "(Ljava/lang/String;)Ljava/lang/AbstractStringBuilder;" = some ⟨[(.object "java/lang/String")], some (.object "java/lang/AbstractStringBuilder")⟩ := by decide +kernel
abbrev Tb24 : List (Nat × Instr × Nat) := [(0, .aload_n 0, 1), (1, .invokespecial 1, 3), (4, .aload_n 1, 1), (5, .invokevirtual 552, 3), (8, .astore_n 3, 1), (9, .aload_n 1, 1), (10, .invokevirtual 549, 3), (13, .istore 4, 2), (15, .aload_n 1, 1), (16, .invokevirtual 1047, 3), (19, .ifCond .eq 22, 3), (22, .aload_n 0, 1), (23, .iconst 0, 1), (24, .putfield 15, 3), (27, .aload_n 0, 1), (28, .aload_n 3, 1), (29, .iconst 0, 1), (30, .iload 4, 2), (32, .invokestatic 54, 3), (35, .putfield 9, 3), (38, .goto 59, 3), (97, .return_, 1)]
theorem D24 : own_tab jdk_42_method_150_code Tb24 := by decide +kernel
theorem pd16 : parseMethodDescriptor "()[B" = some ⟨[], some (.array .byte)⟩ := by decide +kernel
abbrev Tb23 : List (Nat × Instr × Nat) := [(0, .aload_n 0, 1), (1, .aload_n 1, 1), (2, .aconst_null, 1), (3, .invokespecial 489, 3), (6, .return_, 1)]
theorem D23 : own_tab jdk_42_method_53_code Tb23 := by decide +kernel
theorem pd17 : parseMethodDescriptor "(Ljava/lang/AbstractStringBuilder;Ljava/lang/Void;)V" = some ⟨[(.object "java/lang/AbstractStringBuilder"), (.object "java/lang/Void")], none⟩ := by decide +kernel
abbrev Tb22 : List (Nat × Instr × Nat) := [(0, .new 18, 3), (3, .dup, 1), (4, .aload_n 0, 1), (5, .invokespecial 137, 3), (8, .areturn, 1)]
theorem D22 : own_tab jdk_67_method_42_code Tb22 := by decide +kernel
theorem pd18 : parseMethodDescriptor "(Ljava/lang/StringBuilder;)V" = some ⟨[(.object "java/lang/StringBuilder")], none⟩ := by decide +kernel
abbrev Tb41 : List (Nat × Instr × Nat) := [(0, .iconst 0, 1), (1, .istore 5, 2), (3, .iload 5, 2), (5, .iload 4, 2), (7, .if_icmp .ge 37, 3), (10, .aload_n 0, 1), (11, .iload_n 1, 1), (12, .caload, 1), (13, .istore 6, 2), (15, .iload 6, 2), (17, .sipush 255, 3), (20, .if_icmp .le 6, 3), (26, .aload_n 2, 1), (27, .iload_n 3, 1), (28, .iload 6, 2), (30, .i2b, 1), (31, .bastore, 1), (32, .iinc 1 1, 3), (35, .iinc 3 1, 3), (38, .iinc 5 1, 3), (41, .goto (-38), 3), (44, .iload 4, 2), (46, .ireturn, 1)]
theorem D41 : own_tab jdk_52_method_21_code Tb41 := by decide +kernel
theorem pn_41 : plainName "java/lang/StringUTF16" = true := by first | (simp [plainName, overriddenIn]; done) | decide +kernel
abbrev Tb40 : List (Nat × Instr × Nat) := [(0, .iload_n 2, 1), (1, .newarray .byte, 2), (3, .astore_n 3, 1), (4, .aload_n 0, 1), (5, .iload_n 1, 1), (6, .aload_n 3, 1), (7, .iconst 0, 1), (8, .iload_n 2, 1), (9, .invokestatic 115, 3), (12, .istore 4, 2), (14, .iload 4, 2), (16, .iload_n 2, 1), (17, .if_icmp .eq 40, 3), (57, .aload_n 3, 1), (58, .areturn, 1)]
theorem D40 : own_tab jdk_52_method_16_code Tb40 := by decide +kernel
theorem pd19 : parseMethodDescriptor "([CI[BII)I" = some ⟨[(.array .char), .int, (.array .byte), .int, .int], some .int⟩ := by decide +kernel
abbrev Tb42 : List (Nat × Instr × Nat) := [(0, .iload_n 1, 1), (1, .aload_n 0, 1), (2, .arraylength, 1), (3, .isub, 1), (4, .bipush 31, 2), (6, .iushr, 1), (7, .i2b, 1), (8, .ireturn, 1)]
theorem D42 : own_tab jdk_52_method_15_code Tb42 := by decide +kernel
abbrev Tb2 : List (Nat × Instr × Nat) := [(0, .aload_n 0, 1), (1, .invokespecial 1, 3), (4, .iload_n 3, 1), (5, .ifCond .ne 22, 3), (27, .getstatic 38, 3), (30, .ifCond .eq 28, 3), (33, .aload_n 1, 1), (34, .iload_n 2, 1), (35, .iload_n 3, 1), (36, .invokestatic 177, 3), (39, .astore 5, 2), (41, .aload_n 0, 1), (42, .aload 5, 2), (44, .iload_n 3, 1), (45, .invokestatic 47, 3), (48, .putfield 15, 3), (51, .aload_n 0, 1), (52, .aload 5, 2), (54, .putfield 9, 3), (57, .return_, 1), (8, .aload_n 0, 1), (9, .ldc 7, 2), (11, .getfield 9, 3), (14, .putfield 9, 3), (17, .aload_n 0, 1), (18, .ldc 7, 2), (20, .getfield 15, 3), (23, .putfield 15, 3), (26, .return_, 1)]
theorem D2 : own_tab jdk_42_method_149_code Tb2 := by decide +kernel
theorem pd20 : parseMethodDescriptor "([CII)[B" = some ⟨[(.array .char), .int, .int], some (.array .byte)⟩ := by decide +kernel
theorem pd21 : parseMethodDescriptor "([BI)B" = some ⟨[(.array .byte), .int], some .byte⟩ := by decide +kernel
abbrev Tb1 : List (Nat × Instr × Nat) := [(0, .aload_n 0, 1), (1, .aload_n 1, 1), (2, .iconst 0, 1), (3, .aload_n 1, 1), (4, .arraylength, 1), (5, .aconst_null, 1), (6, .invokespecial 27, 3), (9, .return_, 1)]
theorem D1 : own_tab jdk_42_method_3_code Tb1 := by decide +kernel
theorem pd22 : parseMethodDescriptor "([CIILjava/lang/Void;)V" = some ⟨[(.array .char), .int, .int, (.object "java/lang/Void")], none⟩ := by decide +kernel
abbrev Tb48 : List (Nat × Instr × Nat) := [(0, .iload_n 0, 1), (1, .sipush 255, 3), (4, .if_icmp .gt 7, 3), (7, .iconst 1, 1), (8, .goto 4, 3), (12, .ireturn, 1)]
theorem D48 : own_tab jdk_43_method_3_code Tb48 := by decide +kernel
abbrev Tb49 : List (Nat × Instr × Nat) := [(0, .iconst 1, 1), (1, .newarray .byte, 2), (3, .dup, 1), (4, .iconst 0, 1), (5, .iload_n 0, 1), (6, .i2b, 1), (7, .bastore, 1), (8, .areturn, 1)]
theorem D49 : own_tab jdk_43_method_46_code Tb49 := by decide +kernel
abbrev Tb50 : List (Nat × Instr × Nat) := [(0, .aload_n 0, 1), (1, .invokespecial 1, 3), (4, .aload_n 0, 1), (5, .aload_n 1, 1), (6, .putfield 9, 3), (9, .aload_n 0, 1), (10, .iload_n 2, 1), (11, .putfield 15, 3), (14, .return_, 1)]
theorem D50 : own_tab jdk_42_method_151_code Tb50 := by decide +kernel
abbrev Tb47 : List (Nat × Instr × Nat) := [(0, .getstatic 38, 3), (3, .ifCond .eq 23, 3), (6, .iload_n 0, 1), (7, .invokestatic 1015, 3), (10, .ifCond .eq 16, 3), (13, .new 10, 3), (16, .dup, 1), (17, .iload_n 0, 1), (18, .invokestatic 1018, 3), (21, .iconst 0, 1), (22, .invokespecial 209, 3), (25, .areturn, 1)]
theorem D47 : own_tab jdk_42_method_139_code Tb47 := by decide +kernel
theorem pd23 : parseMethodDescriptor "(C)Z" = some ⟨[.char], some .boolean⟩ := by decide +kernel
theorem pd24 : parseMethodDescriptor "(C)[B" = some ⟨[.char], some (.array .byte)⟩ := by decide +kernel
theorem pd25 : parseMethodDescriptor "([BB)V" = some ⟨[(.array .byte), .byte], none⟩ := by decide +kernel
abbrev Tb5 : List (Nat × Instr × Nat) := [(0, .aload_n 0, 1), (1, .invokespecial 1, 3), (4, .return_, 1)]
theorem D5 : own_tab jdk_30_method_1_code Tb5 := by decide +kernel
theorem pn_5 : plainName "java/lang/Record" = true := by first | (simp [plainName, overriddenIn]; done) | decide +kernel
abbrev Tb4 : List (Nat × Instr × Nat) := [(0, .aload_n 0, 1), (1, .invokespecial 1, 3), (4, .aload_n 0, 1), (5, .iload_n 1, 1), (6, .putfield 7, 3), (9, .aload_n 0, 1), (10, .aload_n 2, 1), (11, .putfield 13, 3), (14, .aload_n 0, 1), (15, .iload_n 3, 1), (16, .putfield 17, 3), (19, .aload_n 0, 1), (20, .aload 4, 2), (22, .putfield 21, 3), (25, .aload_n 0, 1), (26, .aload 5, 2), (28, .putfield 24, 3), (31, .aload_n 0, 1), (32, .iload 6, 2), (34, .putfield 27, 3), (37, .return_, 1)]
theorem D4 : own_tab prog_20_method_1_code Tb4 := by decide +kernel
theorem pd26 : parseMethodDescriptor "()V" = some ⟨[], none⟩ := by decide +kernel
theorem pn_4 : plainName "com/example/fastpath/fastpath/settings/RedisServer" = true := by first | (simp [plainName, overriddenIn]; done) | decide +kernel
abbrev Tb19 : List (Nat × Instr × Nat) := [(0, .iconst 1, 1), (1, .istore_n 1, 1), (2, .iload_n 0, 1), (3, .ifCond .lt 8, 3), (6, .iconst 0, 1), (7, .istore_n 1, 1), (8, .iload_n 0, 1), (9, .ineg, 1), (10, .istore_n 0, 1), (11, .bipush (-10), 2), (13, .istore_n 2, 1), (14, .iconst 1, 1), (15, .istore_n 3, 1), (16, .iload_n 3, 1), (17, .bipush 10, 2), (19, .if_icmp .ge 23, 3), (22, .iload_n 0, 1), (23, .iload_n 2, 1), (24, .if_icmp .le 7, 3), (27, .iload_n 3, 1), (28, .iload_n 1, 1), (29, .iadd, 1), (30, .ireturn, 1), (31, .bipush 10, 2), (33, .iload_n 2, 1), (34, .imul, 1), (35, .istore_n 2, 1), (36, .iinc 3 1, 3), (39, .goto (-23), 3), (42, .bipush 10, 2), (44, .iload_n 1, 1), (45, .iadd, 1), (46, .ireturn, 1)]
theorem D19 : own_tab jdk_33_method_13_code Tb19 := by decide +kernel
theorem pn_19 : plainName "java/lang/Integer" = true := by first | (simp [plainName, overriddenIn]; done) | decide +kernel
abbrev Tb21 : List (Nat × Instr × Nat) := [(0, .iload_n 1, 1), (1, .istore 5, 2), (3, .iload_n 0, 1), (4, .ifCond .ge 7, 3), (11, .iconst 0, 1), (12, .istore 6, 2), (14, .iload 6, 2), (16, .ifCond .ne 6, 3), (19, .iload_n 0, 1), (20, .ineg, 1), (21, .istore_n 0, 1), (22, .iload_n 0, 1), (23, .bipush (-100), 2), (25, .if_icmp .gt 47, 3), (28, .iload_n 0, 1), (29, .bipush 100, 2), (31, .idiv, 1), (32, .istore_n 3, 1), (33, .iload_n 3, 1), (34, .bipush 100, 2), (36, .imul, 1), (37, .iload_n 0, 1), (38, .isub, 1), (39, .istore 4, 2), (41, .iload_n 3, 1), (42, .istore_n 0, 1), (43, .aload_n 2, 1), (44, .iinc 5 (-1), 3), (47, .iload 5, 2), (49, .getstatic 83, 3), (52, .iload 4, 2), (54, .baload, 1), (55, .bastore, 1), (56, .aload_n 2, 1), (57, .iinc 5 (-1), 3), (60, .iload 5, 2), (62, .getstatic 87, 3), (65, .iload 4, 2), (67, .baload, 1), (68, .bastore, 1), (69, .goto (-47), 3), (72, .aload_n 2, 1), (73, .iinc 5 (-1), 3), (76, .iload 5, 2), (78, .getstatic 83, 3), (81, .iload_n 0, 1), (82, .ineg, 1), (83, .baload, 1), (84, .bastore, 1), (85, .iload_n 0, 1), (86, .bipush (-9), 2), (88, .if_icmp .ge 16, 3), (91, .aload_n 2, 1), (92, .iinc 5 (-1), 3), (95, .iload 5, 2), (97, .getstatic 87, 3), (100, .iload_n 0, 1), (101, .ineg, 1), (102, .baload, 1), (103, .bastore, 1), (104, .iload 6, 2), (106, .ifCond .eq 12, 3), (118, .iload 5, 2), (120, .ireturn, 1)]
theorem D21 : own_tab jdk_33_method_12_code Tb21 := by decide +kernel
abbrev Tb18 : List (Nat × Instr × Nat) := [(0, .aload_n 0, 1), (1, .getfield 79, 3), (4, .istore_n 2, 1), (5, .iload_n 2, 1), (6, .iload_n 1, 1), (7, .invokestatic 245, 3), (10, .iadd, 1), (11, .istore_n 3, 1), (12, .aload_n 0, 1), (13, .iload_n 3, 1), (14, .invokevirtual 100, 3), (17, .aload_n 0, 1), (18, .invokevirtual 83, 3), (21, .ifCond .eq 16, 3), (24, .iload_n 1, 1), (25, .iload_n 3, 1), (26, .aload_n 0, 1), (27, .getfield 15, 3), (30, .invokestatic 248, 3), (33, .pop, 1), (34, .goto 14, 3), (48, .aload_n 0, 1), (49, .iload_n 3, 1), (50, .putfield 79, 3), (53, .aload_n 0, 1), (54, .areturn, 1)]
theorem D18 : own_tab jdk_68_method_32_code Tb18 := by decide +kernel
theorem pd27 : parseMethodDescriptor "(II[B)I" = some ⟨[.int, .int, (.array .byte)], some .int⟩ := by decide +kernel
abbrev Tb17 : List (Nat × Instr × Nat) := [(0, .aload_n 0, 1), (1, .iload_n 1, 1), (2, .invokespecial 53, 3), (5, .pop, 1), (6, .aload_n 0, 1), (7, .areturn, 1)]
theorem D17 : own_tab jdk_67_method_15_code Tb17 := by decide +kernel
theorem pd28 : parseMethodDescriptor "(I)Ljava/lang/AbstractStringBuilder;" = some ⟨[.int], some (.object "java/lang/AbstractStringBuilder")⟩ := by decide +kernel
abbrev Tb6 : List (Nat × Instr × Nat) := [(0, .aload_n 0, 1), (1, .getfield 7, 3), (4, .ifCond .eq 8, 3), (12, .ldc 32, 2), (7, .ldc 30, 2), (9, .goto 5, 3), (14, .astore_n 1, 1), (15, .aload_n 0, 1), (16, .getfield 24, 3), (19, .ifnonnull 8, 3), (22, .ldc 34, 2), (24, .goto 5, 3), (27, .ldc 38, 2), (29, .astore_n 2, 1), (30, .new 40, 3), (33, .dup, 1), (34, .invokespecial 42, 3), (37, .aload_n 1, 1), (38, .invokevirtual 43, 3), (41, .ldc 47, 2), (43, .invokevirtual 43, 3), (46, .aload_n 2, 1), (47, .invokevirtual 43, 3), (50, .aload_n 0, 1), (51, .getfield 13, 3), (54, .invokevirtual 43, 3), (57, .ldc 49, 2), (59, .invokevirtual 43, 3), (62, .aload_n 0, 1), (63, .getfield 17, 3), (66, .invokevirtual 51, 3), (69, .ldc 54, 2), (71, .invokevirtual 43, 3), (74, .aload_n 0, 1), (75, .getfield 27, 3), (78, .invokevirtual 51, 3), (81, .invokevirtual 56, 3), (84, .areturn, 1)]
theorem D6 : own_tab prog_20_method_2_code Tb6 := by decide +kernel
theorem pd29 : parseMethodDescriptor "(Ljava/lang/String;)Ljava/lang/StringBuilder;" = some ⟨[(.object "java/lang/String")], some (.object "java/lang/StringBuilder")⟩ := by decide +kernel
theorem pd30 : parseMethodDescriptor "(I)Ljava/lang/StringBuilder;" = some ⟨[.int], some (.object "java/lang/StringBuilder")⟩ := by decide +kernel
theorem pd31 : parseMethodDescriptor "()Ljava/lang/String;" = some ⟨[], some (.object "java/lang/String")⟩ := by decide +kernel
abbrev Tb32 : List (Nat × Instr × Nat) := [(0, .iload_n 1, 1), (1, .ifCond .lt 11, 3), (4, .iload_n 1, 1), (5, .aload_n 0, 1), (6, .invokevirtual 7, 3), (9, .if_icmp .lt 5, 3), (14, .aload_n 0, 1), (15, .iload_n 1, 1), (16, .invokevirtual 13, 3), (19, .iload_n 2, 1), (20, .if_icmp .ne 9, 3), (23, .iload_n 1, 1), (24, .iconst 1, 1), (25, .iadd, 1), (26, .goto 4, 3), (30, .ireturn, 1)]
theorem D32 : own_tab method_2_code Tb32 := by decide +kernel
theorem pd32 : parseMethodDescriptor "(I)C" = some ⟨[.int], some .char⟩ := by decide +kernel
theorem pn_32 : plainName "com/example/fastpath/fastpath/settings/RedisServerToStringPinLaw" = true := by first | (simp [plainName, overriddenIn]; done) | decide +kernel
abbrev Tb39 : List (Nat × Instr × Nat) := [(0, .iload_n 2, 1), (1, .iload_n 3, 1), (2, .if_icmp .lt 5, 3), (7, .iload_n 1, 1), (8, .iload_n 2, 1), (9, .iadd, 1), (10, .istore 6, 2), (12, .iload 6, 2), (14, .aload_n 0, 1), (15, .invokevirtual 7, 3), (18, .if_icmp .lt 5, 3), (23, .iload 4, 2), (25, .i2l, 1), (26, .aload 5, 2), (28, .iload_n 3, 1), (29, .iconst 1, 1), (30, .isub, 1), (31, .iload_n 2, 1), (32, .isub, 1), (33, .laload, 1), (34, .ldiv, 1), (35, .ldc2_w 17, 3), (38, .lrem, 1), (39, .lstore 7, 2), (41, .aload_n 0, 1), (42, .iload 6, 2), (44, .invokevirtual 13, 3), (47, .ldc2_w 19, 3), (50, .lload 7, 2), (52, .ladd, 1), (53, .l2i, 1), (54, .i2c, 1), (55, .if_icmp .ne 7, 3), (58, .iconst 1, 1), (59, .goto 4, 3), (63, .ireturn, 1), (5, .iconst 1, 1), (6, .ireturn, 1)]
theorem D39 : own_tab method_3_code Tb39 := by decide +kernel
abbrev Tb38 : List (Nat × Instr × Nat) := [(0, .iload_n 1, 1), (1, .ifCond .lt 7, 3), (4, .iload_n 2, 1), (5, .ifCond .ge 5, 3), (10, .bipush 10, 2), (12, .newarray .long, 2), (14, .dup, 1), (15, .iconst 0, 1), (16, .lconst 1, 1), (17, .lastore, 1), (18, .dup, 1), (19, .iconst 1, 1), (20, .ldc2_w 17, 3), (23, .lastore, 1), (24, .dup, 1), (25, .iconst 2, 1), (26, .ldc2_w 21, 3), (29, .lastore, 1), (30, .dup, 1), (31, .iconst 3, 1), (32, .ldc2_w 23, 3), (35, .lastore, 1), (36, .dup, 1), (37, .iconst 4, 1), (38, .ldc2_w 25, 3), (41, .lastore, 1), (42, .dup, 1), (43, .iconst 5, 1), (44, .ldc2_w 27, 3), (47, .lastore, 1), (48, .dup, 1), (49, .bipush 6, 2), (51, .ldc2_w 29, 3), (54, .lastore, 1), (55, .dup, 1), (56, .bipush 7, 2), (58, .ldc2_w 31, 3), (61, .lastore, 1), (62, .dup, 1), (63, .bipush 8, 2), (65, .ldc2_w 33, 3), (68, .lastore, 1), (69, .dup, 1), (70, .bipush 9, 2), (72, .ldc2_w 35, 3), (75, .lastore, 1), (76, .astore_n 3, 1), (77, .iconst 1, 1), (78, .istore 4, 2), (80, .iload_n 2, 1), (81, .bipush 10, 2), (83, .if_icmp .lt 6, 3), (89, .iload_n 2, 1), (90, .bipush 100, 2), (92, .if_icmp .lt 6, 3), (98, .iload_n 2, 1), (99, .sipush 1000, 3), (102, .if_icmp .lt 6, 3), (108, .iload_n 2, 1), (109, .sipush 10000, 3), (112, .if_icmp .lt 6, 3), (118, .iload_n 2, 1), (119, .ldc 37, 2), (121, .if_icmp .lt 7, 3), (128, .iload_n 2, 1), (129, .ldc 38, 2), (131, .if_icmp .lt 7, 3), (138, .iload_n 2, 1), (139, .ldc 39, 2), (141, .if_icmp .lt 7, 3), (148, .iload_n 2, 1), (149, .ldc 40, 2), (151, .if_icmp .lt 7, 3), (158, .iload_n 2, 1), (159, .ldc 41, 2), (161, .if_icmp .lt 7, 3), (86, .iconst 2, 1), (87, .istore 4, 2), (95, .iconst 3, 1), (96, .istore 4, 2), (105, .iconst 4, 1), (106, .istore 4, 2), (115, .iconst 5, 1), (116, .istore 4, 2), (124, .bipush 6, 2), (126, .istore 4, 2), (134, .bipush 7, 2), (136, .istore 4, 2), (144, .bipush 8, 2), (146, .istore 4, 2), (154, .bipush 9, 2), (156, .istore 4, 2), (164, .bipush 10, 2), (166, .istore 4, 2), (168, .aload_n 0, 1), (169, .iload_n 1, 1), (170, .iconst 0, 1), (171, .iload 4, 2), (173, .iload_n 2, 1), (174, .aload_n 3, 1), (175, .invokestatic 42, 3), (178, .ifCond .ne 5, 3), (183, .aload_n 0, 1), (184, .iload_n 1, 1), (185, .iconst 1, 1), (186, .iload 4, 2), (188, .iload_n 2, 1), (189, .aload_n 3, 1), (190, .invokestatic 42, 3), (193, .ifCond .ne 5, 3), (198, .aload_n 0, 1), (199, .iload_n 1, 1), (200, .iconst 2, 1), (201, .iload 4, 2), (203, .iload_n 2, 1), (204, .aload_n 3, 1), (205, .invokestatic 42, 3), (208, .ifCond .ne 5, 3), (213, .aload_n 0, 1), (214, .iload_n 1, 1), (215, .iconst 3, 1), (216, .iload 4, 2), (218, .iload_n 2, 1), (219, .aload_n 3, 1), (220, .invokestatic 42, 3), (223, .ifCond .ne 5, 3), (228, .aload_n 0, 1), (229, .iload_n 1, 1), (230, .iconst 4, 1), (231, .iload 4, 2), (233, .iload_n 2, 1), (234, .aload_n 3, 1), (235, .invokestatic 42, 3), (238, .ifCond .ne 5, 3), (243, .aload_n 0, 1), (244, .iload_n 1, 1), (245, .iconst 5, 1), (246, .iload 4, 2), (248, .iload_n 2, 1), (249, .aload_n 3, 1), (250, .invokestatic 42, 3), (253, .ifCond .ne 5, 3), (258, .aload_n 0, 1), (259, .iload_n 1, 1), (260, .bipush 6, 2), (262, .iload 4, 2), (264, .iload_n 2, 1), (265, .aload_n 3, 1), (266, .invokestatic 42, 3), (269, .ifCond .ne 5, 3), (274, .aload_n 0, 1), (275, .iload_n 1, 1), (276, .bipush 7, 2), (278, .iload 4, 2), (280, .iload_n 2, 1), (281, .aload_n 3, 1), (282, .invokestatic 42, 3), (285, .ifCond .ne 5, 3), (290, .aload_n 0, 1), (291, .iload_n 1, 1), (292, .bipush 8, 2), (294, .iload 4, 2), (296, .iload_n 2, 1), (297, .aload_n 3, 1), (298, .invokestatic 42, 3), (301, .ifCond .ne 5, 3), (306, .aload_n 0, 1), (307, .iload_n 1, 1), (308, .bipush 9, 2), (310, .iload 4, 2), (312, .iload_n 2, 1), (313, .aload_n 3, 1), (314, .invokestatic 42, 3), (317, .ifCond .ne 5, 3), (322, .iload_n 1, 1), (323, .iload 4, 2), (325, .iadd, 1), (326, .ireturn, 1)]
theorem D38 : own_tab method_4_code Tb38 := by decide +kernel
theorem pd33 : parseMethodDescriptor "(Ljava/lang/String;IIII[J)Z" = some ⟨[(.object "java/lang/String"), .int, .int, .int, .int, (.array .long)], some .boolean⟩ := by decide +kernel
theorem pd34 : parseMethodDescriptor "([C)V" = some ⟨[(.array .char)], none⟩ := by decide +kernel
theorem pd35 : parseMethodDescriptor "(ZLjava/lang/String;ILjava/lang/String;Ljava/lang/String;I)V" = some ⟨[.boolean, (.object "java/lang/String"), .int, (.object "java/lang/String"), (.object "java/lang/String"), .int], none⟩ := by decide +kernel
theorem pd36 : parseMethodDescriptor "(C)Ljava/lang/String;" = some ⟨[.char], some (.object "java/lang/String")⟩ := by decide +kernel
theorem pd37 : parseMethodDescriptor "(Ljava/lang/String;IC)I" = some ⟨[(.object "java/lang/String"), .int, .char], some .int⟩ := by decide +kernel
theorem pd38 : parseMethodDescriptor "(Ljava/lang/String;II)I" = some ⟨[(.object "java/lang/String"), .int, .int], some .int⟩ := by decide +kernel
theorem ef_rmCo (m : MethodId) (x0 : Addr) : entryFrame m #[(.ref x0)] 1 = mkF m 0 #[rv x0] [] := by first | (simp [entryFrame, mkF, argsToLocals, Value.category]; done) | rfl
theorem rmCo (l : Launch) (Z : State) (a0 : Array Value) (hw : own_W a0 Z) (ws : List Jvm.Cond) (u0 : Addr) (zC : Int32) (h0 : Heap) (n0 : Nat) (Z0 : n0 ≤ h0.size) (P_F_u0_String_coder : Fld Z h0 u0 "java/lang/String" "coder" "B" (.int (0 : Int32))) (P_S_String_COMPACT_STRINGS : Sta Z h0 "java/lang/String" "COMPACT_STRINGS" "Z" (.int zC)) (hz : ¬ (zC = (0 : Int32))) :
    own_MF l own_y0 (Jvm.Cond.code own_y0 jdk_42_method_152_code 1 (some .byte)) ws ({ frames := 0, cells := 0, slots := 0, locals := 0 } : Room) #[(.ref u0)] Z h0 (own_QP (some (.int (0 : Int32))) h0 n0) := by
  refine own_enter (n0 := n0) (plainFor_of_name pn_12) (C := "java/lang/String") rfl (fun m => ef_rmCo m u0) fun p e s m below meth c s₁ Bd hx hby hml hown hnm hZ hh X0 e0 N0 pre0 => ?_
  obtain ⟨T1, X1, e1, st1⟩ := getS2 X0 hx hZ hown (host := "") (Or.inl (oG hw 93 rfl)) Via.refl e0 P_S_String_COMPACT_STRINGS (g := (mkF m 0 #[rv u0] [])) rfl (oD hby D12 0 rfl)
  obtain ⟨T2, X2, e2, st2⟩ := getF X1 hx hZ hown (host := "") (Or.inl (oG hw 21 rfl)) Via.refl e1 P_F_u0_String_coder (g := (mkF m 7 #[rv u0] [(.ref u0)])) rfl rfl (oD hby D12 3 rfl)
  obtain ⟨fs, hr, hrun, hended, hW, hsame⟩ := X2.leave (v := some (.int (0 : Int32))) (fun h => by rw [Bd.returns] at h; cases h)
  refine ⟨_, _, pre0 _ ?_, hrun, hended, _, _, rfl, ?_, ⟨_, rfl⟩, hW, hsame.mono (by decide) (by decide)⟩
  · refine st1 _ ?_
    refine XS.ifNo X1.here hx rfl (oD hby D12 1 rfl) rfl ((if0 _ _).trans (feq hz).1) ?_
    refine XS.aloadN X1.here hx rfl (oD hby D12 2 rfl) rfl rfl ?_
    refine st2 _ ?_
    refine XS.goto X2.here hx rfl (pc0 := 10) (pc' := 14) rfl (oD hby D12 4 rfl) (by decide) (by decide) ?_
    show Steps _ _ _ (T2.setTop (mkF m 14 #[rv u0] [(.int (0 : Int32))])) _
    exact retN X2 hx (t := .byte) Bd.returns (by simp) (oD hby D12 5 rfl) hr
  · show own_QP (some (.int (0 : Int32))) h0 n0 _ T2.heap _
    rw [e2]
    exact ⟨rfl, N0, rfl⟩

theorem ef_rmLa (m : MethodId) (x0 : Addr) : entryFrame m #[(.ref x0)] 1 = mkF m 0 #[rv x0] [] := by first | (simp [entryFrame, mkF, argsToLocals, Value.category]; done) | rfl
theorem rmLa (l : Launch) (Z : State) (a0 : Array Value) (hw : own_W a0 Z) (ws : List Jvm.Cond) (u0 : Addr) (zC : Int32) (h0 : Heap) (n0 : Nat) (Z0 : n0 ≤ h0.size) (P_F_u0_String_coder : Fld Z h0 u0 "java/lang/String" "coder" "B" (.int (0 : Int32))) (P_S_String_COMPACT_STRINGS : Sta Z h0 "java/lang/String" "COMPACT_STRINGS" "Z" (.int zC)) (hz : ¬ (zC = (0 : Int32))) :
    own_MF l own_y1 (Jvm.Cond.code own_y1 jdk_42_method_154_code 1 (some .boolean)) ws ({ frames := 0, cells := 0, slots := 0, locals := 0 } : Room) #[(.ref u0)] Z h0 (own_QP (some (.int (1 : Int32))) h0 n0) := by
  refine own_enter (n0 := n0) (plainFor_of_name pn_12) (C := "java/lang/String") rfl (fun m => ef_rmLa m u0) fun p e s m below meth c s₁ Bd hx hby hml hown hnm hZ hh X0 e0 N0 pre0 => ?_
  obtain ⟨T1, X1, e1, st1⟩ := getS2 X0 hx hZ hown (host := "") (Or.inl (oG hw 93 rfl)) Via.refl e0 P_S_String_COMPACT_STRINGS (g := (mkF m 0 #[rv u0] [])) rfl (oD hby D34 0 rfl)
  obtain ⟨T2, X2, e2, st2⟩ := getF X1 hx hZ hown (host := "") (Or.inl (oG hw 21 rfl)) Via.refl e1 P_F_u0_String_coder (g := (mkF m 7 #[rv u0] [(.ref u0)])) rfl rfl (oD hby D34 3 rfl)
  obtain ⟨fs, hr, hrun, hended, hW, hsame⟩ := X2.leave (v := some (.int (1 : Int32))) (fun h => by rw [Bd.returns] at h; cases h)
  refine ⟨_, _, pre0 _ ?_, hrun, hended, _, _, rfl, ?_, ⟨_, rfl⟩, hW, hsame.mono (by decide) (by decide)⟩
  · refine st1 _ ?_
    refine XS.ifNo X1.here hx rfl (oD hby D34 1 rfl) rfl ((if0 _ _).trans (feq hz).1) ?_
    refine XS.aloadN X1.here hx rfl (oD hby D34 2 rfl) rfl rfl ?_
    refine st2 _ ?_
    refine XS.ifNo X2.here hx rfl (oD hby D34 4 rfl) rfl ((if0 _ _).trans (teq (by decide : (0 : Int32) = (0 : Int32))).2) ?_
    refine XS.iconst X2.here hx rfl (oD hby D34 5 rfl) ?_
    refine XS.goto X2.here hx rfl (pc0 := 14) (pc' := 18) rfl (oD hby D34 6 rfl) (by decide) (by decide) ?_
    show Steps _ _ _ (T2.setTop (mkF m 18 #[rv u0] [(.int (1 : Int32))])) _
    exact retN X2 hx (t := .boolean) Bd.returns (by simp) (oD hby D34 7 rfl) hr
  · show own_QP (some (.int (1 : Int32))) h0 n0 _ T2.heap _
    rw [e2]
    exact ⟨rfl, N0, rfl⟩

theorem ef_rmLe (m : MethodId) (x0 : Addr) : entryFrame m #[(.ref x0)] 1 = mkF m 0 #[rv x0] [] := by first | (simp [entryFrame, mkF, argsToLocals, Value.category]; done) | rfl
theorem rmLe (l : Launch) (Z : State) (a0 : Array Value) (hw : own_W a0 Z) (ws : List Jvm.Cond) (u0 : Addr) (tv : Addr) (kt : ClassId) (z : Int32) (vs : List Value) (zC : Int32) (h0 : Heap) (n0 : Nat) (Z0 : n0 ≤ h0.size) (P_E_u0 : Exa Z h0 u0 "java/lang/String") (P_F_u0_String_value : Fld Z h0 u0 "java/lang/String" "value" "[B" (.ref tv)) (P_F_u0_String_coder : Fld Z h0 u0 "java/lang/String" "coder" "B" (.int (0 : Int32))) (P_G_tv : Arv Z h0 tv kt .byte z vs (.int 0)) (P_S_String_COMPACT_STRINGS : Sta Z h0 "java/lang/String" "COMPACT_STRINGS" "Z" (.int zC)) (hz : ¬ (zC = (0 : Int32))) :
    own_MF l own_y2 (Jvm.Cond.code own_y2 jdk_42_method_54_code 1 (some .int)) ws ({ frames := 1, cells := 0, slots := 0, locals := 13 } : Room) #[(.ref u0)] Z h0 (own_QP (some (.int z)) h0 n0) := by
  refine own_enter (n0 := n0) (plainFor_of_name pn_12) (C := "java/lang/String") rfl (fun m => ef_rmLe m u0) fun p e s m below meth c s₁ Bd hx hby hml hown hnm hZ hh X0 e0 N0 pre0 => ?_
  obtain ⟨T1, X1, e1, st1⟩ := getF X0 hx hZ hown (host := "") (Or.inl (oG hw 20 rfl)) Via.refl e0 P_F_u0_String_value (g := (mkF m 1 #[rv u0] [(.ref u0)])) rfl rfl (oD hby D11 1 rfl)
  obtain ⟨cl2, Ar2, qq2, S2, N2_, H2, G2⟩ := id P_G_tv
  obtain ⟨_, T3, L3, X3, hQ3, st3⟩ := own_cV X1 hx hown hZ (oG hw 88 rfl) (oG hw 89 rfl) (oG hw 91 rfl) (oG hw 90 rfl) (oG hw 3 rfl) (oG hw 92 rfl) (by decide) (rmCo l Z a0 hw [] u0 zC h0 n0 Z0 P_F_u0_String_coder P_S_String_COMPACT_STRINGS hz) (W := 1) (by decide) (by decide) P_E_u0 (g := (mkF m 6 #[rv u0] [(.ref u0), (.int z)])) rfl (by rw [hml]; rfl) (argsL := []) (rest := [(.int z)]) (lenOf pd0 rfl) rfl (own_ww rfl) (oD hby D11 4 rfl) e1 rfl (by decide) (by decide)
  obtain ⟨rfl, N3q, e3⟩ := hQ3
  have N3 := Fr.app N0 N3q
  obtain ⟨fs, hr, hrun, hended, hW, hsame⟩ := X3.leave (v := some (.int z)) (fun h => by rw [Bd.returns] at h; cases h)
  refine ⟨_, _, pre0 _ ?_, hrun, hended, _, _, rfl, ?_, ⟨_, rfl⟩, hW, hsame.mono (by decide) (by decide)⟩
  · refine XS.aloadN X0.here hx rfl (oD hby D11 0 rfl) rfl rfl ?_
    refine st1 _ ?_
    refine X1.arraylength hx (by rw [e1]; exact Ar2.1) (State.isArrayOf_alike hZ.alike Ar2.2.1) (g := (mkF m 4 #[rv u0] [(.ref tv)])) rfl rfl (oD hby D11 2 rfl) _ ?_
    rw [len_of S2 N2_]
    refine XS.aloadN X1.here hx rfl (oD hby D11 3 rfl) rfl rfl ?_
    refine st3 _ ?_
    refine XS.ishr X3.here hx rfl (oD hby D11 5 rfl) rfl ?_
    show Steps _ _ _ (T3.setTop (mkF m 10 #[rv u0] [(.int (z >>> ((0 : Int32) &&& 31)))])) _
    rw [own_shr0 z]
    show Steps _ _ _ (T3.setTop (mkF m 10 #[rv u0] [(.int z)])) _
    exact retI X3 hx Bd.returns (oD hby D11 6 rfl) hr
  · show own_QP (some (.int z)) h0 n0 _ T3.heap _
    rw [e3]
    exact ⟨rfl, N3, rfl⟩

theorem ef_rmMx (m : MethodId) (x0 : Int32) (x1 : Int32) : entryFrame m #[(.int x0), (.int x1)] 2 = mkF m 0 #[iv x0, iv x1] [] := by first | (simp [entryFrame, mkF, argsToLocals, Value.category]; done) | rfl
theorem rmMx (l : Launch) (Z : State) (a0 : Array Value) (hw : own_W a0 Z) (ws : List Jvm.Cond) (p0 : Int32) (p1 : Int32) (h0 : Heap) (n0 : Nat) (Z0 : n0 ≤ h0.size) :
    own_MF l own_y3 (Jvm.Cond.code own_y3 jdk_29_method_65_code 2 (some .int)) ws ({ frames := 0, cells := 0, slots := 0, locals := 0 } : Room) #[(.int p0), (.int p1)] Z h0 (own_QP (some (.int (own_max p0 p1))) h0 n0) := by
  refine own_enter (n0 := n0) (Jvm.Free.JP.mathPlain rfl (by decide +kernel)) (C := "java/lang/Math") rfl (fun m => ef_rmMx m p0 p1) fun p e s m below meth c s₁ Bd hx hby hml hown hnm hZ hh X0 e0 N0 pre0 => ?_
  have pre2 : own_V p e below _ s₁ (mkF m 2 #[iv p0, iv p1] [(.int p1), (.int p0)]) := fun t kt => pre0 t (by
   refine XS.iloadN X0.here hx rfl (oD hby D45 0 rfl) rfl ?_
   refine XS.iloadN X0.here hx rfl (oD hby D45 1 rfl) rfl ?_
   exact kt)
  by_cases hc2_1 : p0 < p1
  · obtain ⟨fs, hr, hrun, hended, hW, hsame⟩ := X0.leave (v := some (.int p1)) (fun h => by rw [Bd.returns] at h; cases h)
    refine ⟨_, _, pre2 _ ?_, hrun, hended, _, _, rfl, ?_, ⟨_, rfl⟩, hW, hsame.mono (by decide) (by decide)⟩
    · refine XS.icmpYes X0.here hx rfl (pc0 := 2) (pc' := 9) rfl (oD hby D45 2 rfl) rfl (tlt hc2_1).1 (by decide) (by decide) ?_
      refine XS.iloadN X0.here hx rfl (oD hby D45 3 rfl) rfl ?_
      show Steps _ _ _ (s₁.setTop (mkF m 10 #[iv p0, iv p1] [(.int p1)])) _
      exact retI X0 hx Bd.returns (oD hby D45 4 rfl) hr
    · show own_QP (some (.int (own_max p0 p1))) h0 n0 _ s₁.heap _
      rw [e0]
      exact ⟨(congrArg (fun q => some (Value.int q)) (by unfold own_max; rw [if_pos hc2_1])), N0, rfl⟩
  · obtain ⟨fs, hr, hrun, hended, hW, hsame⟩ := X0.leave (v := some (.int p0)) (fun h => by rw [Bd.returns] at h; cases h)
    refine ⟨_, _, pre2 _ ?_, hrun, hended, _, _, rfl, ?_, ⟨_, rfl⟩, hW, hsame.mono (by decide) (by decide)⟩
    · refine XS.icmpNo X0.here hx rfl (oD hby D45 2 rfl) rfl (flt hc2_1).1 ?_
      refine XS.iloadN X0.here hx rfl (oD hby D45 5 rfl) rfl ?_
      refine XS.goto X0.here hx rfl (pc0 := 6) (pc' := 10) rfl (oD hby D45 6 rfl) (by decide) (by decide) ?_
      show Steps _ _ _ (s₁.setTop (mkF m 10 #[iv p0, iv p1] [(.int p0)])) _
      exact retI X0 hx Bd.returns (oD hby D45 4 rfl) hr
    · show own_QP (some (.int (own_max p0 p1))) h0 n0 _ s₁.heap _
      rw [e0]
      exact ⟨(congrArg (fun q => some (Value.int q)) (by unfold own_max; rw [if_neg hc2_1])), N0, rfl⟩

theorem ef_rmMi (m : MethodId) (x0 : Int32) (x1 : Int32) : entryFrame m #[(.int x0), (.int x1)] 2 = mkF m 0 #[iv x0, iv x1] [] := by first | (simp [entryFrame, mkF, argsToLocals, Value.category]; done) | rfl
theorem rmMi (l : Launch) (Z : State) (a0 : Array Value) (hw : own_W a0 Z) (ws : List Jvm.Cond) (p0 : Int32) (p1 : Int32) (h0 : Heap) (n0 : Nat) (Z0 : n0 ≤ h0.size) :
    own_MF l own_y4 (Jvm.Cond.code own_y4 jdk_29_method_69_code 2 (some .int)) ws ({ frames := 0, cells := 0, slots := 0, locals := 0 } : Room) #[(.int p0), (.int p1)] Z h0 (own_QP (some (.int (own_min p0 p1))) h0 n0) := by
  refine own_enter (n0 := n0) (Jvm.Free.JP.mathPlain rfl (by decide +kernel)) (C := "java/lang/Math") rfl (fun m => ef_rmMi m p0 p1) fun p e s m below meth c s₁ Bd hx hby hml hown hnm hZ hh X0 e0 N0 pre0 => ?_
  have pre2 : own_V p e below _ s₁ (mkF m 2 #[iv p0, iv p1] [(.int p1), (.int p0)]) := fun t kt => pre0 t (by
   refine XS.iloadN X0.here hx rfl (oD hby D31 0 rfl) rfl ?_
   refine XS.iloadN X0.here hx rfl (oD hby D31 1 rfl) rfl ?_
   exact kt)
  by_cases hc2_1 : p1 < p0
  · obtain ⟨fs, hr, hrun, hended, hW, hsame⟩ := X0.leave (v := some (.int p1)) (fun h => by rw [Bd.returns] at h; cases h)
    refine ⟨_, _, pre2 _ ?_, hrun, hended, _, _, rfl, ?_, ⟨_, rfl⟩, hW, hsame.mono (by decide) (by decide)⟩
    · refine XS.icmpYes X0.here hx rfl (pc0 := 2) (pc' := 9) rfl (oD hby D31 2 rfl) rfl (tlt hc2_1).2.2.1 (by decide) (by decide) ?_
      refine XS.iloadN X0.here hx rfl (oD hby D31 3 rfl) rfl ?_
      show Steps _ _ _ (s₁.setTop (mkF m 10 #[iv p0, iv p1] [(.int p1)])) _
      exact retI X0 hx Bd.returns (oD hby D31 4 rfl) hr
    · show own_QP (some (.int (own_min p0 p1))) h0 n0 _ s₁.heap _
      rw [e0]
      exact ⟨(congrArg (fun q => some (Value.int q)) (by unfold own_min; rw [if_pos hc2_1])), N0, rfl⟩
  · obtain ⟨fs, hr, hrun, hended, hW, hsame⟩ := X0.leave (v := some (.int p0)) (fun h => by rw [Bd.returns] at h; cases h)
    refine ⟨_, _, pre2 _ ?_, hrun, hended, _, _, rfl, ?_, ⟨_, rfl⟩, hW, hsame.mono (by decide) (by decide)⟩
    · refine XS.icmpNo X0.here hx rfl (oD hby D31 2 rfl) rfl (flt hc2_1).2.2.1 ?_
      refine XS.iloadN X0.here hx rfl (oD hby D31 5 rfl) rfl ?_
      refine XS.goto X0.here hx rfl (pc0 := 6) (pc' := 10) rfl (oD hby D31 6 rfl) (by decide) (by decide) ?_
      show Steps _ _ _ (s₁.setTop (mkF m 10 #[iv p0, iv p1] [(.int p0)])) _
      exact retI X0 hx Bd.returns (oD hby D31 4 rfl) hr
    · show own_QP (some (.int (own_min p0 p1))) h0 n0 _ s₁.heap _
      rw [e0]
      exact ⟨(congrArg (fun q => some (Value.int q)) (by unfold own_min; rw [if_neg hc2_1])), N0, rfl⟩

theorem ef_rmCk (m : MethodId) (x0 : Int32) (x1 : Int32) : entryFrame m #[(.int x0), (.int x1)] 2 = mkF m 0 #[iv x0, iv x1] [] := by first | (simp [entryFrame, mkF, argsToLocals, Value.category]; done) | rfl
theorem rmCk (l : Launch) (Z : State) (a0 : Array Value) (hw : own_W a0 Z) (ws : List Jvm.Cond) (p0 : Int32) (p1 : Int32) (h0 : Heap) (n0 : Nat) (Z0 : n0 ≤ h0.size) (wl : ¬ p1 < p0) :
    own_MF l own_y5 (Jvm.Cond.code own_y5 jdk_65_method_131_code 2 none) ws ({ frames := 0, cells := 0, slots := 0, locals := 0 } : Room) #[(.int p0), (.int p1)] Z h0 (own_QP none h0 n0) := by
  refine own_enter (n0 := n0) (plainFor_of_name pn_30) (C := "java/util/Arrays") rfl (fun m => ef_rmCk m p0 p1) fun p e s m below meth c s₁ Bd hx hby hml hown hnm hZ hh X0 e0 N0 pre0 => ?_
  obtain ⟨fs, hr, hrun, hended, hW, hsame⟩ := X0.leave (v := none) (fun _ => rfl)
  refine ⟨_, _, pre0 _ ?_, hrun, hended, _, _, rfl, ?_, ⟨_, rfl⟩, hW, hsame.mono (by decide) (by decide)⟩
  · refine XS.iloadN X0.here hx rfl (oD hby D30 0 rfl) rfl ?_
    refine XS.iloadN X0.here hx rfl (oD hby D30 1 rfl) rfl ?_
    refine XS.icmpYes X0.here hx rfl (pc0 := 2) (pc' := 37) rfl (oD hby D30 2 rfl) rfl (flt wl).2.1 (by decide) (by decide) ?_
    show Steps _ _ _ (s₁.setTop (mkF m 37 #[iv p0, iv p1] [])) _
    exact X0.returnOut hx Bd.returns (oD hby D30 3 rfl) hr
  · show own_QP none h0 n0 _ s₁.heap _
    rw [e0]
    exact ⟨rfl, N0, rfl⟩

theorem ef_rmPI0 (m : MethodId) (x0 : Int32) (x1 : Int32) (x2 : Addr) : entryFrame m #[(.int x0), (.int x1), (.ref x2)] 3 = mkF m 0 #[iv x0, iv x1, rv x2] [] := by first | (simp [entryFrame, mkF, argsToLocals, Value.category]; done) | rfl
theorem rmPI0 (l : Launch) (Z : State) (a0 : Array Value) (hw : own_W a0 Z) (ws : List Jvm.Cond) (p0 : Int32) (p1 : Int32) (u2 : Addr) (h0 : Heap) (n0 : Nat) (Z0 : n0 ≤ h0.size) (hi0 : ¬ p0 < 0) (hi1 : p0 < p1) :
    own_MF l own_y6 (Jvm.Cond.code own_y6 jdk_41_method_11_code 3 (some .int)) ws ({ frames := 0, cells := 0, slots := 0, locals := 0 } : Room) #[(.int p0), (.int p1), (.ref u2)] Z h0 (own_QP (some (.int p0)) h0 n0) := by
  refine own_enter (n0 := n0) (plainFor_of_name pn_37) (C := "jdk/internal/util/Preconditions") rfl (fun m => ef_rmPI0 m p0 p1 u2) fun p e s m below meth c s₁ Bd hx hby hml hown hnm hZ hh X0 e0 N0 pre0 => ?_
  obtain ⟨fs, hr, hrun, hended, hW, hsame⟩ := X0.leave (v := some (.int p0)) (fun h => by rw [Bd.returns] at h; cases h)
  refine ⟨_, _, pre0 _ ?_, hrun, hended, _, _, rfl, ?_, ⟨_, rfl⟩, hW, hsame.mono (by decide) (by decide)⟩
  · refine XS.iloadN X0.here hx rfl (oD hby D37 0 rfl) rfl ?_
    refine XS.ifNo X0.here hx rfl (oD hby D37 1 rfl) rfl ((if0 _ _).trans (flt hi0).1) ?_
    refine XS.iloadN X0.here hx rfl (oD hby D37 2 rfl) rfl ?_
    refine XS.iloadN X0.here hx rfl (oD hby D37 3 rfl) rfl ?_
    refine XS.icmpYes X0.here hx rfl (pc0 := 6) (pc' := 16) rfl (oD hby D37 4 rfl) rfl (tlt hi1).1 (by decide) (by decide) ?_
    refine XS.iloadN X0.here hx rfl (oD hby D37 5 rfl) rfl ?_
    show Steps _ _ _ (s₁.setTop (mkF m 17 #[iv p0, iv p1, rv u2] [(.int p0)])) _
    exact retI X0 hx Bd.returns (oD hby D37 6 rfl) hr
  · show own_QP (some (.int p0)) h0 n0 _ s₁.heap _
    rw [e0]
    exact ⟨rfl, N0, rfl⟩

theorem ef_rmPI1 (m : MethodId) (x0 : Int32) (x1 : Int32) : entryFrame m #[(.int x0), (.int x1), .null] 3 = mkF m 0 #[iv x0, iv x1, .val .null] [] := by first | (simp [entryFrame, mkF, argsToLocals, Value.category]; done) | rfl
theorem rmPI1 (l : Launch) (Z : State) (a0 : Array Value) (hw : own_W a0 Z) (ws : List Jvm.Cond) (p0 : Int32) (p1 : Int32) (h0 : Heap) (n0 : Nat) (Z0 : n0 ≤ h0.size) (hi0 : ¬ p0 < 0) (hi1 : p0 < p1) :
    own_MF l own_y6 (Jvm.Cond.code own_y6 jdk_41_method_11_code 3 (some .int)) ws ({ frames := 0, cells := 0, slots := 0, locals := 0 } : Room) #[(.int p0), (.int p1), .null] Z h0 (own_QP (some (.int p0)) h0 n0) := by
  refine own_enter (n0 := n0) (plainFor_of_name pn_37) (C := "jdk/internal/util/Preconditions") rfl (fun m => ef_rmPI1 m p0 p1) fun p e s m below meth c s₁ Bd hx hby hml hown hnm hZ hh X0 e0 N0 pre0 => ?_
  obtain ⟨fs, hr, hrun, hended, hW, hsame⟩ := X0.leave (v := some (.int p0)) (fun h => by rw [Bd.returns] at h; cases h)
  refine ⟨_, _, pre0 _ ?_, hrun, hended, _, _, rfl, ?_, ⟨_, rfl⟩, hW, hsame.mono (by decide) (by decide)⟩
  · refine XS.iloadN X0.here hx rfl (oD hby D37 0 rfl) rfl ?_
    refine XS.ifNo X0.here hx rfl (oD hby D37 1 rfl) rfl ((if0 _ _).trans (flt hi0).1) ?_
    refine XS.iloadN X0.here hx rfl (oD hby D37 2 rfl) rfl ?_
    refine XS.iloadN X0.here hx rfl (oD hby D37 3 rfl) rfl ?_
    refine XS.icmpYes X0.here hx rfl (pc0 := 6) (pc' := 16) rfl (oD hby D37 4 rfl) rfl (tlt hi1).1 (by decide) (by decide) ?_
    refine XS.iloadN X0.here hx rfl (oD hby D37 5 rfl) rfl ?_
    show Steps _ _ _ (s₁.setTop (mkF m 17 #[iv p0, iv p1, .val .null] [(.int p0)])) _
    exact retI X0 hx Bd.returns (oD hby D37 6 rfl) hr
  · show own_QP (some (.int p0)) h0 n0 _ s₁.heap _
    rw [e0]
    exact ⟨rfl, N0, rfl⟩

theorem ef_rmSI (m : MethodId) (x0 : Int32) (x1 : Int32) : entryFrame m #[(.int x0), (.int x1)] 2 = mkF m 0 #[iv x0, iv x1] [] := by first | (simp [entryFrame, mkF, argsToLocals, Value.category]; done) | rfl
theorem rmSI (l : Launch) (Z : State) (a0 : Array Value) (hw : own_W a0 Z) (ws : List Jvm.Cond) (p0 : Int32) (p1 : Int32) (fv : Value) (h0 : Heap) (n0 : Nat) (Z0 : n0 ≤ h0.size) (P_S_Preconditions_SIOOBE_FORMATTER : Sta Z h0 "jdk/internal/util/Preconditions" "SIOOBE_FORMATTER" "Ljava/util/function/BiFunction;" fv) (hfv : (fv = .null ∨ ∃ a, fv = .ref a)) (hi0 : ¬ p0 < 0) (hi1 : p0 < p1) :
    own_MF l own_y7 (Jvm.Cond.code own_y7 jdk_42_method_155_code 2 none) ws ({ frames := 1, cells := 0, slots := 0, locals := 14 } : Room) #[(.int p0), (.int p1)] Z h0 (own_QP none h0 n0) := by
  refine own_enter (n0 := n0) (plainFor_of_name pn_12) (C := "java/lang/String") rfl (fun m => ef_rmSI m p0 p1) fun p e s m below meth c s₁ Bd hx hby hml hown hnm hZ hh X0 e0 N0 pre0 => ?_
  have pre1 : own_V p e below _ s₁ (mkF m 2 #[iv p0, iv p1] [(.int p1), (.int p0)]) := fun t kt => pre0 t (by
   refine XS.iloadN X0.here hx rfl (oD hby D36 0 rfl) rfl ?_
   refine XS.iloadN X0.here hx rfl (oD hby D36 1 rfl) rfl ?_
   exact kt)
  rcases hfv with rfl | ⟨fa_, rfl⟩
  · obtain ⟨T2, X2, e2, st2⟩ := getS2 X0 hx hZ hown (host := "") (Or.inl (oG hw 209 rfl)) Via.refl e0 P_S_Preconditions_SIOOBE_FORMATTER (g := (mkF m 2 #[iv p0, iv p1] [(.int p1), (.int p0)])) rfl (oD hby D36 2 rfl)
    obtain ⟨_, T3, L3, X3, hQ3, st3⟩ := own_cS X2 hx hown hZ (oG hw 211 rfl) (oG hw 212 rfl) (oG hw 210 rfl) (oG hw 213 rfl) (by decide) (rmPI1 l Z a0 hw [] p0 p1 h0 n0 Z0 hi0 hi1) (W := 0) (by decide) (by decide) (g := (mkF m 5 #[iv p0, iv p1] [.null, (.int p1), (.int p0)])) rfl (by rw [hml]; rfl) (argsL := [(.int p0), (.int p1), .null]) (rest := []) (lenOf pd1 rfl) rfl (own_ww rfl) (oD hby D36 3 rfl) e2 rfl (by decide) (by decide)
    obtain ⟨rfl, N3q, e3⟩ := hQ3
    have N3 := Fr.app N0 N3q
    obtain ⟨fs, hr, hrun, hended, hW, hsame⟩ := X3.leave (v := none) (fun _ => rfl)
    refine ⟨_, _, pre1 _ ?_, hrun, hended, _, _, rfl, ?_, ⟨_, rfl⟩, hW, hsame.mono (by decide) (by decide)⟩
    · refine st2 _ ?_
      refine st3 _ ?_
      refine XS.pop X3.here hx rfl (oD hby D36 4 rfl) rfl rfl ?_
      show Steps _ _ _ (T3.setTop (mkF m 9 #[iv p0, iv p1] [])) _
      exact X3.returnOut hx Bd.returns (oD hby D36 5 rfl) hr
    · show own_QP none h0 n0 _ T3.heap _
      rw [e3]
      exact ⟨rfl, N3, rfl⟩
  · obtain ⟨T4, X4, e4, st4⟩ := getS2 X0 hx hZ hown (host := "") (Or.inl (oG hw 209 rfl)) Via.refl e0 P_S_Preconditions_SIOOBE_FORMATTER (g := (mkF m 2 #[iv p0, iv p1] [(.int p1), (.int p0)])) rfl (oD hby D36 2 rfl)
    obtain ⟨_, T5, L5, X5, hQ5, st5⟩ := own_cS X4 hx hown hZ (oG hw 211 rfl) (oG hw 212 rfl) (oG hw 210 rfl) (oG hw 213 rfl) (by decide) (rmPI0 l Z a0 hw [] p0 p1 fa_ h0 n0 Z0 hi0 hi1) (W := 0) (by decide) (by decide) (g := (mkF m 5 #[iv p0, iv p1] [(.ref fa_), (.int p1), (.int p0)])) rfl (by rw [hml]; rfl) (argsL := [(.int p0), (.int p1), (.ref fa_)]) (rest := []) (lenOf pd1 rfl) rfl (own_ww rfl) (oD hby D36 3 rfl) e4 rfl (by decide) (by decide)
    obtain ⟨rfl, N5q, e5⟩ := hQ5
    have N5 := Fr.app N0 N5q
    obtain ⟨fs, hr, hrun, hended, hW, hsame⟩ := X5.leave (v := none) (fun _ => rfl)
    refine ⟨_, _, pre1 _ ?_, hrun, hended, _, _, rfl, ?_, ⟨_, rfl⟩, hW, hsame.mono (by decide) (by decide)⟩
    · refine st4 _ ?_
      refine st5 _ ?_
      refine XS.pop X5.here hx rfl (oD hby D36 4 rfl) rfl rfl ?_
      show Steps _ _ _ (T5.setTop (mkF m 9 #[iv p0, iv p1] [])) _
      exact X5.returnOut hx Bd.returns (oD hby D36 5 rfl) hr
    · show own_QP none h0 n0 _ T5.heap _
      rw [e5]
      exact ⟨rfl, N5, rfl⟩

theorem ef_rmCL (m : MethodId) (x0 : Addr) (x1 : Int32) : entryFrame m #[(.ref x0), (.int x1)] 2 = mkF m 0 #[rv x0, iv x1] [] := by first | (simp [entryFrame, mkF, argsToLocals, Value.category]; done) | rfl
theorem rmCL (l : Launch) (Z : State) (a0 : Array Value) (hw : own_W a0 Z) (ws : List Jvm.Cond) (u0 : Addr) (p1 : Int32) (kt : ClassId) (z : Int32) (vs : List Value) (fv : Value) (h0 : Heap) (n0 : Nat) (Z0 : n0 ≤ h0.size) (P_G_u0 : Arv Z h0 u0 kt .byte z vs (.int 0)) (P_S_Preconditions_SIOOBE_FORMATTER : Sta Z h0 "jdk/internal/util/Preconditions" "SIOOBE_FORMATTER" "Ljava/util/function/BiFunction;" fv) (hfv : (fv = .null ∨ ∃ a, fv = .ref a)) (hi0 : ¬ p1 < 0) (hi1 : p1 < z) :
    own_MF l own_y8 (Jvm.Cond.code own_y8 jdk_43_method_2_code 2 (some .char)) ws ({ frames := 2, cells := 0, slots := 0, locals := 27 } : Room) #[(.ref u0), (.int p1)] Z h0 (own_QP (some (.int (own_ch (own_at vs p1)))) h0 n0) := by
  refine own_enter (n0 := n0) (plainFor_of_name pn_35) (C := "java/lang/StringLatin1") rfl (fun m => ef_rmCL m u0 p1) fun p e s m below meth c s₁ Bd hx hby hml hown hnm hZ hh X0 e0 N0 pre0 => ?_
  obtain ⟨cl1, Ar1, qq1, S1, N1_, H1, G1⟩ := id P_G_u0
  obtain ⟨_, T2, L2, X2, hQ2, st2⟩ := own_cS X0 hx hown hZ (oG hw 206 rfl) (oG hw 207 rfl) (oG hw 3 rfl) (oG hw 208 rfl) (by decide) (rmSI l Z a0 hw [] p1 z fv h0 n0 Z0 P_S_Preconditions_SIOOBE_FORMATTER hfv hi0 hi1) (W := 0) (by decide) (by decide) (g := (mkF m 3 #[rv u0, iv p1] [(.int z), (.int p1)])) rfl (by rw [hml]; rfl) (argsL := [(.int p1), (.int z)]) (rest := []) (lenOf pd2 rfl) rfl (own_ww rfl) (oD hby D35 3 rfl) e0 rfl (by decide) (by decide)
  obtain ⟨rfl, N2q, e2⟩ := hQ2
  have N2 := Fr.app N0 N2q
  obtain ⟨cl3, Ar3, qq3, S3, N3_, H3, G3⟩ := id P_G_u0
  have hin3 : ¬ (p1 < 0 ∨ cl3.slots.size ≤ (p1).toNatClampNeg) := inb_of S3 ⟨hi0, hi1⟩
  have hat3 : cl3.slots[(p1).toNatClampNeg]? = some (.int (own_at vs p1)) := own_atv H3 G3 hin3
  obtain ⟨fs, hr, hrun, hended, hW, hsame⟩ := X2.leave (v := some (.int (nar .char (((own_at vs p1) &&& (255 : Int32)).toUInt32.toUInt16.toUInt32.toInt32)))) (fun h => by rw [Bd.returns] at h; cases h)
  refine ⟨_, _, pre0 _ ?_, hrun, hended, _, _, rfl, ?_, ⟨_, rfl⟩, hW, hsame.mono (by decide) (by decide)⟩
  · refine XS.iloadN X0.here hx rfl (oD hby D35 0 rfl) rfl ?_
    refine XS.aloadN X0.here hx rfl (oD hby D35 1 rfl) rfl rfl ?_
    refine X0.arraylength hx (by rw [e0]; exact Ar1.1) (State.isArrayOf_alike hZ.alike Ar1.2.1) (g := (mkF m 2 #[rv u0, iv p1] [(.ref u0), (.int p1)])) rfl rfl (oD hby D35 2 rfl) _ ?_
    rw [len_of S1 N1_]
    refine st2 _ ?_
    refine XS.aloadN X2.here hx rfl (oD hby D35 4 rfl) rfl rfl ?_
    refine XS.iloadN X2.here hx rfl (oD hby D35 5 rfl) rfl ?_
    refine X2.baloadBytes hx (j := p1) (v := (.int (own_at vs p1))) (by rw [e2]; exact Ar3.1) (State.isArrayOf_alike hZ.alike Ar3.2.1) Ar3.2.2 hin3 hat3 (g := (mkF m 8 #[rv u0, iv p1] [(.int p1), (.ref u0)])) rfl rfl (oD hby D35 6 rfl) _ ?_
    refine XS.sipush X2.here hx rfl (oD hby D35 7 rfl) ?_
    refine XS.iand X2.here hx rfl (oD hby D35 8 rfl) rfl ?_
    refine XS.i2c X2.here hx rfl (oD hby D35 9 rfl) rfl ?_
    show Steps _ _ _ (T2.setTop (mkF m 14 #[rv u0, iv p1] [(.int (((own_at vs p1) &&& (255 : Int32)).toUInt32.toUInt16.toUInt32.toInt32))])) _
    exact retN X2 hx (t := .char) Bd.returns (by simp) (oD hby D35 10 rfl) hr
  · show own_QP (some (.int (own_ch (own_at vs p1)))) h0 n0 _ T2.heap _
    rw [e2]
    exact ⟨rfl, N2, rfl⟩

theorem ef_rmCA (m : MethodId) (x0 : Addr) (x1 : Int32) : entryFrame m #[(.ref x0), (.int x1)] 2 = mkF m 0 #[rv x0, iv x1] [] := by first | (simp [entryFrame, mkF, argsToLocals, Value.category]; done) | rfl
theorem rmCA (l : Launch) (Z : State) (a0 : Array Value) (hw : own_W a0 Z) (ws : List Jvm.Cond) (u0 : Addr) (p1 : Int32) (tv : Addr) (kt : ClassId) (z : Int32) (vs : List Value) (zC : Int32) (fv : Value) (h0 : Heap) (n0 : Nat) (Z0 : n0 ≤ h0.size) (P_E_u0 : Exa Z h0 u0 "java/lang/String") (P_F_u0_String_value : Fld Z h0 u0 "java/lang/String" "value" "[B" (.ref tv)) (P_F_u0_String_coder : Fld Z h0 u0 "java/lang/String" "coder" "B" (.int (0 : Int32))) (P_G_tv : Arv Z h0 tv kt .byte z vs (.int 0)) (P_S_String_COMPACT_STRINGS : Sta Z h0 "java/lang/String" "COMPACT_STRINGS" "Z" (.int zC)) (hz : ¬ (zC = (0 : Int32))) (P_S_Preconditions_SIOOBE_FORMATTER : Sta Z h0 "jdk/internal/util/Preconditions" "SIOOBE_FORMATTER" "Ljava/util/function/BiFunction;" fv) (hfv : (fv = .null ∨ ∃ a, fv = .ref a)) (hi0 : ¬ p1 < 0) (hi1 : p1 < z) :
    own_MF l own_y9 (Jvm.Cond.code own_y9 jdk_42_method_56_code 2 (some .char)) ws ({ frames := 3, cells := 0, slots := 0, locals := 40 } : Room) #[(.ref u0), (.int p1)] Z h0 (own_QP (some (.int (nar .char (own_ch (own_at vs p1))))) h0 n0) := by
  refine own_enter (n0 := n0) (plainFor_of_name pn_12) (C := "java/lang/String") rfl (fun m => ef_rmCA m u0 p1) fun p e s m below meth c s₁ Bd hx hby hml hown hnm hZ hh X0 e0 N0 pre0 => ?_
  obtain ⟨_, T1, L1, X1, hQ1, st1⟩ := own_cV X0 hx hown hZ (oG hw 197 rfl) (oG hw 198 rfl) (oG hw 200 rfl) (oG hw 199 rfl) (oG hw 3 rfl) (oG hw 201 rfl) (by decide) (rmLa l Z a0 hw [] u0 zC h0 n0 Z0 P_F_u0_String_coder P_S_String_COMPACT_STRINGS hz) (W := 0) (by decide) (by decide) P_E_u0 (g := (mkF m 1 #[rv u0, iv p1] [(.ref u0)])) rfl (by rw [hml]; rfl) (argsL := []) (rest := []) (lenOf pd3 rfl) rfl (own_ww rfl) (oD hby D33 1 rfl) e0 rfl (by decide) (by decide)
  obtain ⟨rfl, N1q, e1⟩ := hQ1
  have N1 := Fr.app N0 N1q
  obtain ⟨T2, X2, e2, st2⟩ := getF X1 hx hZ hown (host := "") (Or.inl (oG hw 20 rfl)) Via.refl e1 P_F_u0_String_value (g := (mkF m 8 #[rv u0, iv p1] [(.ref u0)])) rfl rfl (oD hby D33 4 rfl)
  obtain ⟨_, T3, L3, X3, hQ3, st3⟩ := own_cS X2 hx hown hZ (oG hw 202 rfl) (oG hw 203 rfl) (oG hw 204 rfl) (oG hw 205 rfl) (by decide) (rmCL l Z a0 hw [] tv p1 kt z vs fv h0 n0 Z0 P_G_tv P_S_Preconditions_SIOOBE_FORMATTER hfv hi0 hi1) (W := 0) (by decide) (by decide) (g := (mkF m 12 #[rv u0, iv p1] [(.int p1), (.ref tv)])) rfl (by rw [hml]; rfl) (argsL := [(.ref tv), (.int p1)]) (rest := []) (lenOf pd4 rfl) rfl (own_ww rfl) (oD hby D33 6 rfl) e2 rfl (by decide) (by decide)
  obtain ⟨rfl, N3q, e3⟩ := hQ3
  have N3 := Fr.app N1 N3q
  obtain ⟨fs, hr, hrun, hended, hW, hsame⟩ := X3.leave (v := some (.int (nar .char (own_ch (own_at vs p1))))) (fun h => by rw [Bd.returns] at h; cases h)
  refine ⟨_, _, pre0 _ ?_, hrun, hended, _, _, rfl, ?_, ⟨_, rfl⟩, hW, hsame.mono (by decide) (by decide)⟩
  · refine XS.aloadN X0.here hx rfl (oD hby D33 0 rfl) rfl rfl ?_
    refine st1 _ ?_
    refine XS.ifNo X1.here hx rfl (oD hby D33 2 rfl) rfl ((if0 _ _).trans (feq (by decide : ¬ ((1 : Int32) = (0 : Int32)))).1) ?_
    refine XS.aloadN X1.here hx rfl (oD hby D33 3 rfl) rfl rfl ?_
    refine st2 _ ?_
    refine XS.iloadN X2.here hx rfl (oD hby D33 5 rfl) rfl ?_
    refine st3 _ ?_
    show Steps _ _ _ (T3.setTop (mkF m 15 #[rv u0, iv p1] [(.int (own_ch (own_at vs p1)))])) _
    exact retN X3 hx (t := .char) Bd.returns (by simp) (oD hby D33 7 rfl) hr
  · show own_QP (some (.int (nar .char (own_ch (own_at vs p1))))) h0 n0 _ T3.heap _
    rw [e3]
    exact ⟨rfl, N3, rfl⟩

theorem ef_rmRB (m : MethodId) (x0 : Addr) (x1 : Int32) (x2 : Int32) : entryFrame m #[(.ref x0), (.int x1), (.int x2)] 5 = mkF m 0 #[rv x0, iv x1, iv x2, .unset, .unset] [] := by first | (simp [entryFrame, mkF, argsToLocals, Value.category]; done) | rfl
def Q_rmRB (Z : State) (u0 : Addr) (p2 : Int32) (kt : ClassId) (z : Int32) (vs : List Value) (xl : List Int32) (h0 : Heap) (n0 : Nat) (v : Option Value) (h : Heap) (L : List Loc) : Prop := ∃ (yv : Addr), ∃ (ky : ClassId), ∃ (ys : List Value), (v = (some (.ref yv)) ∧ Fr n0 L ∧ Keep h0 h [] ∧ h0.size ≤ yv ∧ Exa Z h yv "[B" ∧ Arv Z h yv ky .byte p2 ys (.int 0) ∧ (own_has ys xl))
theorem rmRB (l : Launch) (Z : State) (a0 : Array Value) (hw : own_W a0 Z) (ws : List Jvm.Cond) (u0 : Addr) (p2 : Int32) (kt : ClassId) (z : Int32) (vs : List Value) (xl : List Int32) (h0 : Heap) (n0 : Nat) (Z0 : n0 ≤ h0.size) (P_G_u0 : Arv Z h0 u0 kt .byte z vs (.int 0)) (wh : own_has vs xl) (wn : own_len xl p2) (w34 : xl.length ≤ 34) (wlt : p2 < z) :
    own_MF l own_y10 (Jvm.Cond.code own_y10 jdk_65_method_133_code 5 (some (.array .byte))) ws ({ frames := 1, cells := 1, slots := 34, locals := 18 } : Room) #[(.ref u0), (.int (0 : Int32)), (.int p2)] Z h0 (Q_rmRB Z u0 p2 kt z vs xl h0 n0) := by
  refine own_enter (n0 := n0) (plainFor_of_name pn_30) (C := "java/util/Arrays") rfl (fun m => ef_rmRB m u0 (0 : Int32) p2) fun p e s m below meth c s₁ Bd hx hby hml hown hnm hZ hh X0 e0 N0 pre0 => ?_
  obtain ⟨_, T1, L1, X1, hQ1, st1⟩ := own_cS X0 hx hown hZ (oG hw 179 rfl) (oG hw 180 rfl) (oG hw 174 rfl) (oG hw 181 rfl) (by decide) (rmCk l Z a0 hw [] (0 : Int32) p2 h0 n0 Z0 (own_b0 wn)) (W := 0) (by decide) (by decide) (g := (mkF m 2 #[rv u0, iv (0 : Int32), iv p2, .unset, .unset] [(.int p2), (.int (0 : Int32))])) rfl (by rw [hml]; rfl) (argsL := [(.int (0 : Int32)), (.int p2)]) (rest := []) (lenOf pd2 rfl) rfl (own_ww rfl) (oD hby D29 2 rfl) e0 rfl (by decide) (by decide)
  obtain ⟨rfl, N1q, e1⟩ := hQ1
  have N1 := Fr.app N0 N1q
  obtain ⟨T2, h2, k2, X2, e2, E2, A2, Q2, st2⟩ := newPE X1 hx hZ (oG hw 15 rfl) e1 (g := (mkF m 10 #[rv u0, iv (0 : Int32), iv p2, iv p2, .unset] [(.int p2)])) rfl (oD hby D29 8 rfl) rfl (own_b0 wn) (cap := 34) (own_b1 wn w34) (by decide) (by decide) (by decide) (ad := "[B") rfl
  obtain ⟨b2, g2⟩ : ∃ z, z = h0.size := ⟨_, rfl⟩
  rw [← g2] at A2 st2 Q2
  have ne3 : u0 ≠ b2 := Nat.ne_of_lt (Nat.lt_of_lt_of_le P_G_u0.lt (Nat.le_of_eq g2.symm))
  have o2 : n0 ≤ b2 := Nat.le_trans Z0 (Nat.le_of_eq g2.symm)
  have z2 : h0.size ≤ b2 := Nat.le_trans (Keep.refl h0 []).1 (Nat.le_of_eq g2.symm)
  have K2 : Keep h0 h2 [] := (Keep.refl h0 []).ext E2
  have V2 : Arv Z h2 b2 k2 .byte p2 (List.replicate 34 (.int 0)) (.int 0) := (Arv.new A2 (own_b0 wn)).pad (pad_rep [] (.int 0) 34)
  have f4 := (P_G_u0.ext E2)
  obtain ⟨cl5, Ar5, qq5, S5, N5_, H5, G5⟩ := id f4
  have f6 := (Nat.le_trans Z0 E2.1)
  obtain ⟨_, T7, L7, X7, hQ7, st7⟩ := own_cS X2 hx hown hZ (oG hw 182 rfl) (oG hw 183 rfl) (oG hw 184 rfl) (oG hw 185 rfl) (by decide) (rmMi l Z a0 hw [] z p2 h2 n0 f6 ) (W := 4) (by decide) (by decide) (g := (mkF m 24 #[rv u0, iv (0 : Int32), iv p2, iv p2, rv b2] [(.int p2), (.int z), (.int (0 : Int32)), (.ref b2), (.int (0 : Int32)), (.ref u0)])) rfl (by rw [hml]; rfl) (argsL := [(.int z), (.int p2)]) (rest := [(.int (0 : Int32)), (.ref b2), (.int (0 : Int32)), (.ref u0)]) (lenOf pd5 rfl) rfl (own_ww rfl) (oD hby D29 19 rfl) e2 rfl (by decide) (by decide)
  obtain ⟨rfl, N7q, e7⟩ := hQ7
  have N7 := Fr.app N1 N7q
  have pre8 : own_V p e below _ T7 (mkF m 27 #[rv u0, iv (0 : Int32), iv p2, iv p2, rv b2] [(.int (own_min z p2)), (.int (0 : Int32)), (.ref b2), (.int (0 : Int32)), (.ref u0)]) := fun t kt => pre0 t (by
   refine XS.iloadN X0.here hx rfl (oD hby D29 0 rfl) rfl ?_
   refine XS.iloadN X0.here hx rfl (oD hby D29 1 rfl) rfl ?_
   refine st1 _ ?_
   refine XS.iloadN X1.here hx rfl (oD hby D29 3 rfl) rfl ?_
   refine XS.iloadN X1.here hx rfl (oD hby D29 4 rfl) rfl ?_
   refine XS.isub X1.here hx rfl (oD hby D29 5 rfl) rfl ?_
   show Steps _ _ _ (T1.setTop (mkF m 8 #[rv u0, iv (0 : Int32), iv p2, .unset, .unset] [(.int (p2 - (0 : Int32)))])) _
   rw [own_s0 p2]
   refine XS.istoreN X1.here hx rfl (oD hby D29 6 rfl) rfl rfl ?_
   refine XS.iloadN X1.here hx rfl (oD hby D29 7 rfl) rfl ?_
   refine st2 _ ?_
   refine XS.astore X2.here hx rfl (oD hby D29 9 rfl) rfl rfl rfl ?_
   refine XS.aloadN X2.here hx rfl (oD hby D29 10 rfl) rfl rfl ?_
   refine XS.iloadN X2.here hx rfl (oD hby D29 11 rfl) rfl ?_
   refine XS.aload X2.here hx rfl (oD hby D29 12 rfl) rfl rfl ?_
   refine XS.iconst X2.here hx rfl (oD hby D29 13 rfl) ?_
   refine XS.aloadN X2.here hx rfl (oD hby D29 14 rfl) rfl rfl ?_
   refine X2.arraylength hx (by rw [e2]; exact Ar5.1) (State.isArrayOf_alike hZ.alike Ar5.2.1) (g := (mkF m 20 #[rv u0, iv (0 : Int32), iv p2, iv p2, rv b2] [(.ref u0), (.int (0 : Int32)), (.ref b2), (.int (0 : Int32)), (.ref u0)])) rfl rfl (oD hby D29 15 rfl) _ ?_
   rw [len_of S5 N5_]
   refine XS.iloadN X2.here hx rfl (oD hby D29 16 rfl) rfl ?_
   refine XS.isub X2.here hx rfl (oD hby D29 17 rfl) rfl ?_
   show Steps _ _ _ (T2.setTop (mkF m 23 #[rv u0, iv (0 : Int32), iv p2, iv p2, rv b2] [(.int (z - (0 : Int32))), (.int (0 : Int32)), (.ref b2), (.int (0 : Int32)), (.ref u0)])) _
   rw [own_s0 z]
   refine XS.iloadN X2.here hx rfl (oD hby D29 18 rfl) rfl ?_
   refine st7 _ ?_
   exact kt)
  rw [(show own_min z p2 = p2 from if_pos wlt)] at pre8
  obtain ⟨T9, h9, L9, X9, e9, N9, K9, V9_, st9⟩ := cpA X7 hx hZ hown (oG hw 186 rfl) (oG hw 120 rfl) (oG hw 118 rfl) (oG hw 119 rfl) e7 f4 V2  (Or.inl ⟨rfl, rfl⟩) (sp := (0 : Int32)) (dp := (0 : Int32)) (nn := p2) (by decide) (by decide) (own_b0 wn) (own_b3 wn wlt) (own_b4 p2) rfl (own_b5 wn w34) N7 o2 (g := (mkF m 27 #[rv u0, iv (0 : Int32), iv p2, iv p2, rv b2] [(.int p2), (.int (0 : Int32)), (.ref b2), (.int (0 : Int32)), (.ref u0)])) rfl (by rw [hml]; rfl) rfl (oD hby D29 20 rfl) (by decide) (W := 0) (by show 2 * 0 + _ ≤ _; exact Nat.le_of_eq rfl) (by decide)
  have KK9 : Keep h0 h9 [] := Keep.trans K2 K9 (allS (Or.inr z2) all0)
  obtain ⟨vx9, V9, hvx9⟩ : ∃ vx, Arv Z h9 b2 k2 .byte p2 vx (.int 0) ∧ vx = ((List.replicate 34 (.int 0))).take ((0 : Int32)).toNatClampNeg ++ (List.range (p2).toNatClampNeg).map (fun i => (vs).getD (((0 : Int32)).toNatClampNeg + i) (.int 0)) ++ ((List.replicate 34 (.int 0))).drop (((0 : Int32)).toNatClampNeg + (p2).toNatClampNeg) := ⟨_, V9_, rfl⟩
  obtain ⟨fs, hr, hrun, hended, hW, hsame⟩ := X9.leave (v := some (.ref b2)) (fun h => by rw [Bd.returns] at h; cases h)
  have f10 := (Q2.keep K9)
  refine ⟨_, _, pre8 _ ?_, hrun, hended, _, _, rfl, ?_, ⟨_, rfl⟩, hW, hsame.mono (by decide) (by decide)⟩
  · refine st9 _ ?_
    refine XS.aload X9.here hx rfl (oD hby D29 21 rfl) rfl rfl ?_
    show Steps _ _ _ (T9.setTop (mkF m 32 #[rv u0, iv (0 : Int32), iv p2, iv p2, rv b2] [(.ref b2)])) _
    exact retOut X9 hx Bd.returns rfl (Or.inr (Or.inr (Or.inr (Or.inr ⟨rfl, rfl, rfl⟩)))) (oD hby D29 22 rfl) hr
  · show Q_rmRB Z u0 p2 kt z vs xl h0 n0 _ T9.heap _
    rw [e9]
    exact ⟨b2, k2, vx9, rfl, N9, KK9, z2, f10, V9, (own_b6 wn w34 wh hvx9)⟩

theorem ef_rmRA (m : MethodId) (x0 : Addr) (x1 : Int32) (x2 : Int32) : entryFrame m #[(.ref x0), (.int x1), (.int x2)] 3 = mkF m 0 #[rv x0, iv x1, iv x2] [] := by first | (simp [entryFrame, mkF, argsToLocals, Value.category]; done) | rfl
def Q_rmRA (Z : State) (u0 : Addr) (p2 : Int32) (kt : ClassId) (z : Int32) (vs : List Value) (xl : List Int32) (h0 : Heap) (n0 : Nat) (v : Option Value) (h : Heap) (L : List Loc) : Prop := ∃ (yv : Addr), ∃ (ky : ClassId), ∃ (ys : List Value), (v = (some (.ref yv)) ∧ Fr n0 L ∧ Keep h0 h [] ∧ h0.size ≤ yv ∧ Exa Z h yv "[B" ∧ Arv Z h yv ky .byte p2 ys (.int 0) ∧ (own_has ys xl))
theorem rmRA (l : Launch) (Z : State) (a0 : Array Value) (hw : own_W a0 Z) (ws : List Jvm.Cond) (u0 : Addr) (p2 : Int32) (kt : ClassId) (z : Int32) (vs : List Value) (xl : List Int32) (h0 : Heap) (n0 : Nat) (Z0 : n0 ≤ h0.size) (P_E_u0 : Exa Z h0 u0 "[B") (P_G_u0 : Arv Z h0 u0 kt .byte z vs (.int 0)) (wh : own_has vs xl) (wn : own_len xl p2) (w34 : xl.length ≤ 34) (wi : own_in xl z) (wc : own_cap z vs) :
    own_MF l own_y11 (Jvm.Cond.code own_y11 jdk_65_method_132_code 3 (some (.array .byte))) ws ({ frames := 2, cells := 1, slots := 34, locals := 34 } : Room) #[(.ref u0), (.int (0 : Int32)), (.int p2)] Z h0 (Q_rmRA Z u0 p2 kt z vs xl h0 n0) := by
  refine own_enter (n0 := n0) (plainFor_of_name pn_30) (C := "java/util/Arrays") rfl (fun m => ef_rmRA m u0 (0 : Int32) p2) fun p e s m below meth c s₁ Bd hx hby hml hown hnm hZ hh X0 e0 N0 pre0 => ?_
  obtain ⟨cl1, Ar1, qq1, S1, N1_, H1, G1⟩ := id P_G_u0
  have pre3 : own_V p e below _ s₁ (mkF m 7 #[rv u0, iv (0 : Int32), iv p2] [(.int z), (.int p2)]) := fun t kt => pre0 t (by
   refine XS.iloadN X0.here hx rfl (oD hby D28 0 rfl) rfl ?_
   refine XS.ifNo X0.here hx rfl (oD hby D28 1 rfl) rfl ((if0 _ _).trans (teq (by decide : (0 : Int32) = (0 : Int32))).2) ?_
   refine XS.iloadN X0.here hx rfl (oD hby D28 2 rfl) rfl ?_
   refine XS.aloadN X0.here hx rfl (oD hby D28 3 rfl) rfl rfl ?_
   refine X0.arraylength hx (by rw [e0]; exact Ar1.1) (State.isArrayOf_alike hZ.alike Ar1.2.1) (g := (mkF m 6 #[rv u0, iv (0 : Int32), iv p2] [(.ref u0), (.int p2)])) rfl rfl (oD hby D28 4 rfl) _ ?_
   rw [len_of S1 N1_]
   exact kt)
  by_cases hc7_2 : p2 = z
  · obtain ⟨T4, h4, X4, e4, E4, A4, Q4, st4⟩ := cloneH X0 hx hZ hown (oG hw 279 rfl) (oG hw 280 rfl) (oG hw 284 rfl) (oG hw 282 rfl) (oG hw 283 rfl) (oG hw 285 rfl) e0 (Arv.arh P_G_u0) P_E_u0 (g := (mkF m 18 #[rv u0, iv (0 : Int32), iv p2] [(.ref u0)])) rfl (by rw [hml]; rfl) rfl (oD hby D28 7 rfl) (by decide) (W := 0) (by show 2 * 0 + _ ≤ _; exact Nat.le_of_eq rfl) (by decide) (cap := 34) (own_c34 wc) (by decide) (by decide)
    obtain ⟨b4, g4⟩ : ∃ z, z = h0.size := ⟨_, rfl⟩
    rw [← g4] at A4 st4 Q4
    have ne5 : u0 ≠ b4 := Nat.ne_of_lt (Nat.lt_of_lt_of_le P_E_u0.lt (Nat.le_of_eq g4.symm))
    have o4 : n0 ≤ b4 := Nat.le_trans Z0 (Nat.le_of_eq g4.symm)
    have z4 : h0.size ≤ b4 := Nat.le_trans (Keep.refl h0 []).1 (Nat.le_of_eq g4.symm)
    have K4 : Keep h0 h4 [] := (Keep.refl h0 []).ext E4
    have V4 : Arv Z h4 b4 kt .byte z vs (.int 0) := A4
    obtain ⟨T6, X6, e6, st6⟩ := castY X4 hx hZ hown (oG hw 286 rfl) e4 (Ins.self Q4) (g := (mkF m 21 #[rv u0, iv (0 : Int32), iv p2] [(.ref b4)])) rfl rfl (oD hby D28 8 rfl)
    obtain ⟨fs, hr, hrun, hended, hW, hsame⟩ := X6.leave (v := some (.ref b4)) (fun h => by rw [Bd.returns] at h; cases h)
    refine ⟨_, _, pre3 _ ?_, hrun, hended, _, _, rfl, ?_, ⟨_, rfl⟩, hW, hsame.mono (by decide) (by decide)⟩
    · refine XS.icmpYes X0.here hx rfl (pc0 := 7) (pc' := 17) rfl (oD hby D28 5 rfl) rfl (teq hc7_2).1 (by decide) (by decide) ?_
      refine XS.aloadN X0.here hx rfl (oD hby D28 6 rfl) rfl rfl ?_
      refine st4 _ ?_
      refine st6 _ ?_
      show Steps _ _ _ (T6.setTop (mkF m 24 #[rv u0, iv (0 : Int32), iv p2] [(.ref b4)])) _
      exact retOut X6 hx Bd.returns rfl (Or.inr (Or.inr (Or.inr (Or.inr ⟨rfl, rfl, rfl⟩)))) (oD hby D28 9 rfl) hr
    · show Q_rmRA Z u0 p2 kt z vs xl h0 n0 _ T6.heap _
      rw [e6]
      exact ⟨b4, kt, vs, rfl, N0, K4, z4, Q4, (by rw [hc7_2]; exact V4), wh⟩
  · obtain ⟨_, T7, L7, X7, hQ7, st7⟩ := own_cS X0 hx hown hZ (oG hw 176 rfl) (oG hw 177 rfl) (oG hw 174 rfl) (oG hw 178 rfl) (by decide) (rmRB l Z a0 hw [] u0 p2 kt z vs xl h0 n0 Z0 P_G_u0 wh wn w34 (own_lt2 wn wi hc7_2)) (W := 0) (by decide) (by decide) (g := (mkF m 13 #[rv u0, iv (0 : Int32), iv p2] [(.int p2), (.int (0 : Int32)), (.ref u0)])) rfl (by rw [hml]; rfl) (argsL := [(.ref u0), (.int (0 : Int32)), (.int p2)]) (rest := []) (lenOf pd6 rfl) rfl (own_ww rfl) (oD hby D28 13 rfl) e0 rfl (by decide) (by decide)
    obtain ⟨yv_7, ky_7, ys_7, rfl, N7q, K7, sx7_0, f8, f9, f10⟩ := hQ7
    have oyv_7 : n0 ≤ yv_7 := Nat.le_trans Z0 sx7_0
    have zyv_7 : h0.size ≤ yv_7 := Nat.le_trans (Keep.refl h0 []).1 sx7_0
    have ne11 : u0 ≠ yv_7 := Nat.ne_of_lt (Nat.lt_of_lt_of_le P_E_u0.lt sx7_0)
    have KK7 : Keep h0 T7.heap [] := Keep.trans (Keep.refl h0 []) K7 all0
    have N7 := Fr.app N0 N7q
    obtain ⟨fs, hr, hrun, hended, hW, hsame⟩ := X7.leave (v := some (.ref yv_7)) (fun h => by rw [Bd.returns] at h; cases h)
    refine ⟨_, _, pre3 _ ?_, hrun, hended, _, _, rfl, ?_, ⟨_, rfl⟩, hW, hsame.mono (by decide) (by decide)⟩
    · refine XS.icmpNo X0.here hx rfl (oD hby D28 5 rfl) rfl (feq hc7_2).1 ?_
      refine XS.aloadN X0.here hx rfl (oD hby D28 10 rfl) rfl rfl ?_
      refine XS.iloadN X0.here hx rfl (oD hby D28 11 rfl) rfl ?_
      refine XS.iloadN X0.here hx rfl (oD hby D28 12 rfl) rfl ?_
      refine st7 _ ?_
      show Steps _ _ _ (T7.setTop (mkF m 16 #[rv u0, iv (0 : Int32), iv p2] [(.ref yv_7)])) _
      exact retOut X7 hx Bd.returns rfl (Or.inr (Or.inr (Or.inr (Or.inr ⟨rfl, rfl, rfl⟩)))) (oD hby D28 14 rfl) hr
    · show Q_rmRA Z u0 p2 kt z vs xl h0 n0 _ T7.heap _
      exact ⟨yv_7, ky_7, ys_7, rfl, N7, KK7, zyv_7, f8, f9, f10⟩

theorem ef_rmAI (m : MethodId) (x0 : Addr) (x1 : Int32) : entryFrame m #[(.ref x0), (.int x1)] 2 = mkF m 0 #[rv x0, iv x1] [] := by first | (simp [entryFrame, mkF, argsToLocals, Value.category]; done) | rfl
def Q_rmAI (Z : State) (u0 : Addr) (zC : Int32) (h0 : Heap) (n0 : Nat) (v : Option Value) (h : Heap) (L : List Loc) : Prop := ∃ (bv : Addr), ∃ (kb : ClassId), ∃ (bs : List Value), (v = none ∧ Fr n0 L ∧ Keep h0 h [u0] ∧ h0.size ≤ bv ∧ Exa Z h u0 "java/lang/StringBuilder" ∧ Fld Z h u0 "java/lang/AbstractStringBuilder" "value" "[B" (.ref bv) ∧ Fld Z h u0 "java/lang/AbstractStringBuilder" "coder" "B" (.int (0 : Int32)) ∧ Fld Z h u0 "java/lang/AbstractStringBuilder" "count" "I" (.int (0 : Int32)) ∧ Exa Z h bv "[B" ∧ Arv Z h bv kb .byte (16 : Int32) bs (.int 0) ∧ (own_cap (16 : Int32) bs))
theorem rmAI (l : Launch) (Z : State) (a0 : Array Value) (hw : own_W a0 Z) (ws : List Jvm.Cond) (u0 : Addr) (zC : Int32) (h0 : Heap) (n0 : Nat) (Z0 : n0 ≤ h0.size) (P_E_u0 : Exa Z h0 u0 "java/lang/StringBuilder") (P_F_u0_AbstractStringBuilder_value : Fld Z h0 u0 "java/lang/AbstractStringBuilder" "value" "[B" .null) (P_F_u0_AbstractStringBuilder_coder : Fld Z h0 u0 "java/lang/AbstractStringBuilder" "coder" "B" (.int (0 : Int32))) (P_F_u0_AbstractStringBuilder_count : Fld Z h0 u0 "java/lang/AbstractStringBuilder" "count" "I" (.int (0 : Int32))) (P_S_String_COMPACT_STRINGS : Sta Z h0 "java/lang/String" "COMPACT_STRINGS" "Z" (.int zC)) (hz : ¬ (zC = (0 : Int32))) (g_u0 : n0 ≤ u0) :
    own_MF l own_y12 (Jvm.Cond.code own_y12 jdk_68_method_2_code 2 none) ws ({ frames := 1, cells := 1, slots := 16, locals := 12 } : Room) #[(.ref u0), (.int (16 : Int32))] Z h0 (Q_rmAI Z u0 zC h0 n0) := by
  refine own_enter (n0 := n0) (plainFor_of_name pn_8) (C := "java/lang/AbstractStringBuilder") rfl (fun m => ef_rmAI m u0 (16 : Int32)) fun p e s m below meth c s₁ Bd hx hby hml hown hnm hZ hh X0 e0 N0 pre0 => ?_
  obtain ⟨T1, X1, e1, st1⟩ := initO X0 hx hZ hown (oG hw 67 rfl) (oG hw 12 rfl) (oG hw 13 rfl) e0 (g := (mkF m 1 #[rv u0, iv (16 : Int32)] [(.ref u0)])) rfl (by rw [hml]; rfl) rfl (oD hby D8 1 rfl) (by decide) (W := 0) (by show 2 * 0 + _ ≤ _; exact Nat.le_of_eq rfl) (by decide)
  obtain ⟨T2, X2, e2, st2⟩ := getS2 X1 hx hZ hown (host := "") (Or.inl (oG hw 68 rfl)) Via.refl e1 P_S_String_COMPACT_STRINGS (g := (mkF m 4 #[rv u0, iv (16 : Int32)] [])) rfl (oD hby D8 2 rfl)
  obtain ⟨T3, h3, k3, X3, e3, E3, A3, Q3, st3⟩ := newPE X2 hx hZ (oG hw 15 rfl) e2 (g := (mkF m 12 #[rv u0, iv (16 : Int32)] [(.int (16 : Int32)), (.ref u0)])) rfl (oD hby D8 6 rfl) rfl (by decide) (cap := 16) (by decide) (by decide) (by decide) (by decide) (ad := "[B") rfl
  obtain ⟨b3, g3⟩ : ∃ z, z = h0.size := ⟨_, rfl⟩
  rw [← g3] at A3 st3 Q3
  have ne4 : u0 ≠ b3 := Nat.ne_of_lt (Nat.lt_of_lt_of_le P_E_u0.lt (Nat.le_of_eq g3.symm))
  have o3 : n0 ≤ b3 := Nat.le_trans Z0 (Nat.le_of_eq g3.symm)
  have z3 : h0.size ≤ b3 := Nat.le_trans (Keep.refl h0 [u0]).1 (Nat.le_of_eq g3.symm)
  have K3 : Keep h0 h3 [u0] := (Keep.refl h0 [u0]).ext E3
  have V3 : Arv Z h3 b3 k3 .byte (16 : Int32) [(.int (0 : Int32)), (.int (0 : Int32)), (.int (0 : Int32)), (.int (0 : Int32)), (.int (0 : Int32)), (.int (0 : Int32)), (.int (0 : Int32)), (.int (0 : Int32)), (.int (0 : Int32)), (.int (0 : Int32)), (.int (0 : Int32)), (.int (0 : Int32)), (.int (0 : Int32)), (.int (0 : Int32)), (.int (0 : Int32)), (.int (0 : Int32))] (.int (0 : Int32)) := (Arv.new A3 (by decide)).pad (pad_rep [] (.int (0 : Int32)) 16)
  have f5 := (P_E_u0.ext E3)
  have f6 := (P_F_u0_AbstractStringBuilder_value.ext E3)
  obtain ⟨T7, h7, X7, e7, W7, st7⟩ := putF X3 hx hZ hown (host := "") (Or.inl (oG hw 69 rfl)) Via.refl e3 f6 f5 (Or.inl (oG hw 70 rfl)) (oG hw 56 rfl) (ty := (.array .byte)) (by decide) rfl rfl (g := (mkF m 14 #[rv u0, iv (16 : Int32)] [(.ref b3), (.ref u0)])) rfl rfl (oD hby D8 7 rfl)
  have f7_ : Fld Z h7 u0 "java/lang/AbstractStringBuilder" "value" "[B" (.ref b3) := f6.same W7
  have N8 := Fr.snoc X7 N0 g_u0
  have K9 : Keep h0 h7 [u0] := K3.wr W7 (Or.inl (List.mem_of_getElem? (i := 0) rfl))
  have f10 := (f5.wr W7)
  have f11 := ((P_F_u0_AbstractStringBuilder_coder.ext E3).other W7 (Or.inr (slot_ne (Or.inl (oG hw 72 rfl)) (Or.inl (oG hw 70 rfl)) (by decide) (t := .byte) (t' := (.array .byte)) (by decide) (by decide))))
  obtain ⟨T12, h12, X12, e12, W12, st12⟩ := putFN X7 hx hZ hown (oG hw 71 rfl) Via.refl e7 f11 f10 (Or.inl (oG hw 72 rfl)) (oG hw 56 rfl) (ty := .byte) (v' := (.int (0 : Int32))) (by decide) rfl rfl (g := (mkF m 19 #[rv u0, iv (16 : Int32)] [(.int (0 : Int32)), (.ref u0)])) rfl rfl (oD hby D8 10 rfl)
  have f12_ : Fld Z h12 u0 "java/lang/AbstractStringBuilder" "coder" "B" (.int (0 : Int32)) := f11.same W12
  have N13 := Fr.snoc X12 N8 g_u0
  have K14 : Keep h0 h12 [u0] := K9.wr W12 (Or.inl (List.mem_of_getElem? (i := 0) rfl))
  obtain ⟨fs, hr, hrun, hended, hW, hsame⟩ := X12.leave (v := none) (fun _ => rfl)
  have f15 := (f10.wr W12)
  have f16 := (f7_.other W12 (Or.inr (slot_ne (Or.inl (oG hw 70 rfl)) (Or.inl (oG hw 72 rfl)) (by decide) (t := (.array .byte)) (t' := .byte) (by decide) (by decide))))
  have f17 := (((P_F_u0_AbstractStringBuilder_count.ext E3).other W7 (Or.inr (slot_ne (Or.inl (oG hw 95 rfl)) (Or.inl (oG hw 70 rfl)) (by decide) (t := .int) (t' := (.array .byte)) (by decide) (by decide)))).other W12 (Or.inr (slot_ne (Or.inl (oG hw 95 rfl)) (Or.inl (oG hw 72 rfl)) (by decide) (t := .int) (t' := .byte) (by decide) (by decide))))
  have f18 := ((Q3.wr W7).wr W12)
  have f19 := ((V3.other W7 (Ne.symm ne4)).other W12 (Ne.symm ne4))
  refine ⟨_, _, pre0 _ ?_, hrun, hended, _, _, rfl, ?_, ⟨_, rfl⟩, hW, hsame.mono (by decide) (by decide)⟩
  · refine XS.aloadN X0.here hx rfl (oD hby D8 0 rfl) rfl rfl ?_
    refine st1 _ ?_
    refine st2 _ ?_
    refine XS.ifNo X2.here hx rfl (oD hby D8 3 rfl) rfl ((if0 _ _).trans (feq hz).1) ?_
    refine XS.aloadN X2.here hx rfl (oD hby D8 4 rfl) rfl rfl ?_
    refine XS.iloadN X2.here hx rfl (oD hby D8 5 rfl) rfl ?_
    refine st3 _ ?_
    refine st7 _ ?_
    refine XS.aloadN X7.here hx rfl (oD hby D8 8 rfl) rfl rfl ?_
    refine XS.iconst X7.here hx rfl (oD hby D8 9 rfl) ?_
    refine st12 _ ?_
    refine XS.goto X12.here hx rfl (pc0 := 22) (pc' := 38) rfl (oD hby D8 11 rfl) (by decide) (by decide) ?_
    show Steps _ _ _ (T12.setTop (mkF m 38 #[rv u0, iv (16 : Int32)] [])) _
    exact X12.returnOut hx Bd.returns (oD hby D8 12 rfl) hr
  · show Q_rmAI Z u0 zC h0 n0 _ T12.heap _
    rw [e12]
    exact ⟨b3, k3, [(.int (0 : Int32)), (.int (0 : Int32)), (.int (0 : Int32)), (.int (0 : Int32)), (.int (0 : Int32)), (.int (0 : Int32)), (.int (0 : Int32)), (.int (0 : Int32)), (.int (0 : Int32)), (.int (0 : Int32)), (.int (0 : Int32)), (.int (0 : Int32)), (.int (0 : Int32)), (.int (0 : Int32)), (.int (0 : Int32)), (.int (0 : Int32))], rfl, N13, K14, z3, f15, f16, f12_, f17, f18, f19, ⟨Or.inl rfl, Nat.le_of_ble_eq_true rfl⟩⟩

theorem ef_rmBI (m : MethodId) (x0 : Addr) : entryFrame m #[(.ref x0)] 1 = mkF m 0 #[rv x0] [] := by first | (simp [entryFrame, mkF, argsToLocals, Value.category]; done) | rfl
def Q_rmBI (Z : State) (u0 : Addr) (zC : Int32) (h0 : Heap) (n0 : Nat) (v : Option Value) (h : Heap) (L : List Loc) : Prop := ∃ (bv : Addr), ∃ (kb : ClassId), ∃ (bs : List Value), (v = none ∧ Fr n0 L ∧ Keep h0 h [u0] ∧ h0.size ≤ bv ∧ Exa Z h u0 "java/lang/StringBuilder" ∧ Fld Z h u0 "java/lang/AbstractStringBuilder" "value" "[B" (.ref bv) ∧ Fld Z h u0 "java/lang/AbstractStringBuilder" "coder" "B" (.int (0 : Int32)) ∧ Fld Z h u0 "java/lang/AbstractStringBuilder" "count" "I" (.int (0 : Int32)) ∧ Exa Z h bv "[B" ∧ Arv Z h bv kb .byte (16 : Int32) bs (.int 0) ∧ (own_cap (16 : Int32) bs))
theorem rmBI (l : Launch) (Z : State) (a0 : Array Value) (hw : own_W a0 Z) (ws : List Jvm.Cond) (u0 : Addr) (zC : Int32) (h0 : Heap) (n0 : Nat) (Z0 : n0 ≤ h0.size) (P_E_u0 : Exa Z h0 u0 "java/lang/StringBuilder") (P_F_u0_AbstractStringBuilder_value : Fld Z h0 u0 "java/lang/AbstractStringBuilder" "value" "[B" .null) (P_F_u0_AbstractStringBuilder_coder : Fld Z h0 u0 "java/lang/AbstractStringBuilder" "coder" "B" (.int (0 : Int32))) (P_F_u0_AbstractStringBuilder_count : Fld Z h0 u0 "java/lang/AbstractStringBuilder" "count" "I" (.int (0 : Int32))) (P_S_String_COMPACT_STRINGS : Sta Z h0 "java/lang/String" "COMPACT_STRINGS" "Z" (.int zC)) (hz : ¬ (zC = (0 : Int32))) (g_u0 : n0 ≤ u0) :
    own_MF l own_y13 (Jvm.Cond.code own_y13 jdk_67_method_1_code 1 none) ws ({ frames := 2, cells := 1, slots := 16, locals := 25 } : Room) #[(.ref u0)] Z h0 (Q_rmBI Z u0 zC h0 n0) := by
  refine own_enter (n0 := n0) (plainFor_of_name pn_7) (C := "java/lang/StringBuilder") rfl (fun m => ef_rmBI m u0) fun p e s m below meth c s₁ Bd hx hby hml hown hnm hZ hh X0 e0 N0 pre0 => ?_
  obtain ⟨_, T1, L1, X1, hQ1, st1⟩ := own_cI X0 hx rfl hown hZ (oG hw 61 rfl) (oG hw 62 rfl) (oG hw 65 rfl) (oG hw 66 rfl) (by decide) (rmAI l Z a0 hw [] u0 zC h0 n0 Z0 P_E_u0 P_F_u0_AbstractStringBuilder_value P_F_u0_AbstractStringBuilder_coder P_F_u0_AbstractStringBuilder_count P_S_String_COMPACT_STRINGS hz g_u0) (W := 0) (by decide) (by decide) (g := (mkF m 3 #[rv u0] [(.int (16 : Int32)), (.ref u0)])) rfl (by rw [hml]; rfl) (a := u0) (argsL := [(.int (16 : Int32))]) (rest := []) (lenOf pd7 rfl) rfl (own_ww rfl) (oD hby D7 2 rfl) e0 rfl (by decide) (by decide)
  obtain ⟨bv_1, kb_1, bs_1, rfl, N1q, K1, sx1_0, f2, f3, f4, f5, f6, f7, f8⟩ := hQ1
  have obv_1 : n0 ≤ bv_1 := Nat.le_trans Z0 sx1_0
  have zbv_1 : h0.size ≤ bv_1 := Nat.le_trans (Keep.refl h0 [u0]).1 sx1_0
  have ne9 : u0 ≠ bv_1 := Nat.ne_of_lt (Nat.lt_of_lt_of_le P_E_u0.lt sx1_0)
  have KK1 : Keep h0 T1.heap [u0] := Keep.trans (Keep.refl h0 [u0]) K1 (allS (Or.inl (List.mem_of_getElem? (i := 0) rfl)) all0)
  have N1 := Fr.app N0 N1q
  obtain ⟨fs, hr, hrun, hended, hW, hsame⟩ := X1.leave (v := none) (fun _ => rfl)
  refine ⟨_, _, pre0 _ ?_, hrun, hended, _, _, rfl, ?_, ⟨_, rfl⟩, hW, hsame.mono (by decide) (by decide)⟩
  · refine XS.aloadN X0.here hx rfl (oD hby D7 0 rfl) rfl rfl ?_
    refine XS.bipush X0.here hx rfl (oD hby D7 1 rfl) ?_
    refine st1 _ ?_
    show Steps _ _ _ (T1.setTop (mkF m 6 #[rv u0] [])) _
    exact X1.returnOut hx Bd.returns (oD hby D7 3 rfl) hr
  · show Q_rmBI Z u0 zC h0 n0 _ T1.heap _
    exact ⟨bv_1, kb_1, bs_1, rfl, N1, KK1, zbv_1, f2, f3, f4, f5, f6, f7, f8⟩

theorem ef_rmGV (m : MethodId) (x0 : Addr) : entryFrame m #[(.ref x0)] 1 = mkF m 0 #[rv x0] [] := by first | (simp [entryFrame, mkF, argsToLocals, Value.category]; done) | rfl
theorem rmGV (l : Launch) (Z : State) (a0 : Array Value) (hw : own_W a0 Z) (ws : List Jvm.Cond) (u0 : Addr) (bv : Addr) (h0 : Heap) (n0 : Nat) (Z0 : n0 ≤ h0.size) (P_E_u0 : Exa Z h0 u0 "java/lang/StringBuilder") (P_F_u0_AbstractStringBuilder_value : Fld Z h0 u0 "java/lang/AbstractStringBuilder" "value" "[B" (.ref bv)) :
    own_MF l own_y14 (Jvm.Cond.code own_y14 jdk_68_method_64_code 1 (some (.array .byte))) ws ({ frames := 0, cells := 0, slots := 0, locals := 0 } : Room) #[(.ref u0)] Z h0 (own_QP (some (.ref bv)) h0 n0) := by
  refine own_enter (n0 := n0) (plainFor_of_name pn_8) (C := "java/lang/AbstractStringBuilder") rfl (fun m => ef_rmGV m u0) fun p e s m below meth c s₁ Bd hx hby hml hown hnm hZ hh X0 e0 N0 pre0 => ?_
  obtain ⟨T1, X1, e1, st1⟩ := getF X0 hx hZ hown (host := "") (Or.inl (oG hw 69 rfl)) Via.refl e0 P_F_u0_AbstractStringBuilder_value (g := (mkF m 1 #[rv u0] [(.ref u0)])) rfl rfl (oD hby D25 1 rfl)
  obtain ⟨fs, hr, hrun, hended, hW, hsame⟩ := X1.leave (v := some (.ref bv)) (fun h => by rw [Bd.returns] at h; cases h)
  refine ⟨_, _, pre0 _ ?_, hrun, hended, _, _, rfl, ?_, ⟨_, rfl⟩, hW, hsame.mono (by decide) (by decide)⟩
  · refine XS.aloadN X0.here hx rfl (oD hby D25 0 rfl) rfl rfl ?_
    refine st1 _ ?_
    show Steps _ _ _ (T1.setTop (mkF m 4 #[rv u0] [(.ref bv)])) _
    exact retOut X1 hx Bd.returns rfl (Or.inr (Or.inr (Or.inr (Or.inr ⟨rfl, rfl, rfl⟩)))) (oD hby D25 2 rfl) hr
  · show own_QP (some (.ref bv)) h0 n0 _ T1.heap _
    rw [e1]
    exact ⟨rfl, N0, rfl⟩

theorem ef_rmAL (m : MethodId) (x0 : Addr) : entryFrame m #[(.ref x0)] 1 = mkF m 0 #[rv x0] [] := by first | (simp [entryFrame, mkF, argsToLocals, Value.category]; done) | rfl
theorem rmAL (l : Launch) (Z : State) (a0 : Array Value) (hw : own_W a0 Z) (ws : List Jvm.Cond) (u0 : Addr) (cnt : Int32) (h0 : Heap) (n0 : Nat) (Z0 : n0 ≤ h0.size) (P_E_u0 : Exa Z h0 u0 "java/lang/StringBuilder") (P_F_u0_AbstractStringBuilder_count : Fld Z h0 u0 "java/lang/AbstractStringBuilder" "count" "I" (.int cnt)) :
    own_MF l own_y15 (Jvm.Cond.code own_y15 jdk_68_method_6_code 1 (some .int)) ws ({ frames := 0, cells := 0, slots := 0, locals := 0 } : Room) #[(.ref u0)] Z h0 (own_QP (some (.int cnt)) h0 n0) := by
  refine own_enter (n0 := n0) (plainFor_of_name pn_8) (C := "java/lang/AbstractStringBuilder") rfl (fun m => ef_rmAL m u0) fun p e s m below meth c s₁ Bd hx hby hml hown hnm hZ hh X0 e0 N0 pre0 => ?_
  obtain ⟨T1, X1, e1, st1⟩ := getF X0 hx hZ hown (host := "") (Or.inl (oG hw 94 rfl)) Via.refl e0 P_F_u0_AbstractStringBuilder_count (g := (mkF m 1 #[rv u0] [(.ref u0)])) rfl rfl (oD hby D27 1 rfl)
  obtain ⟨fs, hr, hrun, hended, hW, hsame⟩ := X1.leave (v := some (.int cnt)) (fun h => by rw [Bd.returns] at h; cases h)
  refine ⟨_, _, pre0 _ ?_, hrun, hended, _, _, rfl, ?_, ⟨_, rfl⟩, hW, hsame.mono (by decide) (by decide)⟩
  · refine XS.aloadN X0.here hx rfl (oD hby D27 0 rfl) rfl rfl ?_
    refine st1 _ ?_
    show Steps _ _ _ (T1.setTop (mkF m 4 #[rv u0] [(.int cnt)])) _
    exact retI X1 hx Bd.returns (oD hby D27 2 rfl) hr
  · show own_QP (some (.int cnt)) h0 n0 _ T1.heap _
    rw [e1]
    exact ⟨rfl, N0, rfl⟩

theorem ef_rmBL (m : MethodId) (x0 : Addr) : entryFrame m #[(.ref x0)] 1 = mkF m 0 #[rv x0] [] := by first | (simp [entryFrame, mkF, argsToLocals, Value.category]; done) | rfl
theorem rmBL (l : Launch) (Z : State) (a0 : Array Value) (hw : own_W a0 Z) (ws : List Jvm.Cond) (u0 : Addr) (cnt : Int32) (h0 : Heap) (n0 : Nat) (Z0 : n0 ≤ h0.size) (P_E_u0 : Exa Z h0 u0 "java/lang/StringBuilder") (P_F_u0_AbstractStringBuilder_count : Fld Z h0 u0 "java/lang/AbstractStringBuilder" "count" "I" (.int cnt)) :
    own_MF l own_y17 (Jvm.Cond.code own_y17 jdk_67_method_93_code 1 (some .int)) ws ({ frames := 1, cells := 0, slots := 0, locals := 12 } : Room) #[(.ref u0)] Z h0 (own_QP (some (.int cnt)) h0 n0) := by
  refine own_enter (n0 := n0) (plainFor_of_name pn_7) (C := "java/lang/StringBuilder") rfl (fun m => ef_rmBL m u0) fun p e s m below meth c s₁ Bd hx hby hml hown hnm hZ hh X0 e0 N0 pre0 => ?_
  obtain ⟨_, _, ⟨T1, L1, k1, n1⟩, -, X1, ⟨Lc1, hQ1, l1, y1, z1⟩, st1⟩ := superBack X0 hx hZ (y := own_y15) hown (oG hw 169 rfl) (own_same (y' := own_y16) (C := "java/lang/StringBuilder") (oG hw 165 rfl) (oG hw 170 rfl) (oG hw 99 rfl) rfl (by decide)) (oG hw 165 rfl) (oG hw 80 rfl) (by decide) (backOf (W := 0) (rmAL l Z a0 hw [] u0 cnt h0 n0 Z0 P_E_u0 P_F_u0_AbstractStringBuilder_count) hZ (oG hw 170 rfl) (oG hw 65 rfl) (by decide) (by decide)) e0 (Ins.self P_E_u0) (g := (mkF m 1 #[rv u0] [(.ref u0)])) rfl (by rw [hml]; rfl) (oG hw 170 rfl) (argsL := []) (rest := []) (lenOf pd8 rfl) rfl (by show 2 * 0 + _ ≤ _; exact Nat.le_of_eq rfl) (oD hby D26 1 rfl) (fun _ _ => ⟨rfl, e0, (by decide : 0 + 0 ≤ _), (by decide : 0 + 0 ≤ _)⟩)
  dsimp only [Pt.U, Pt.locs, Pt.cells, Pt.slots] at X1 l1 y1 z1 st1 hQ1
  subst l1 y1 z1
  obtain ⟨rfl, N1q, e1⟩ := hQ1
  have N1 := Fr.app N0 N1q
  obtain ⟨fs, hr, hrun, hended, hW, hsame⟩ := X1.leave (v := some (.int cnt)) (fun h => by rw [Bd.returns] at h; cases h)
  refine ⟨_, _, pre0 _ ?_, hrun, hended, _, _, rfl, ?_, ⟨_, rfl⟩, hW, hsame.mono (by decide) (by decide)⟩
  · refine XS.aloadN X0.here hx rfl (oD hby D26 0 rfl) rfl rfl ?_
    refine st1.trans ?_
    show Steps _ _ _ (T1.setTop (mkF m 4 #[rv u0] [(.int cnt)])) _
    exact retI X1 hx Bd.returns (oD hby D26 2 rfl) hr
  · show own_QP (some (.int cnt)) h0 n0 _ T1.heap _
    rw [e1]
    exact ⟨rfl, N1, rfl⟩

theorem ef_rmIL (m : MethodId) (x0 : Addr) : entryFrame m #[(.ref x0)] 1 = mkF m 0 #[rv x0] [] := by first | (simp [entryFrame, mkF, argsToLocals, Value.category]; done) | rfl
theorem rmIL (l : Launch) (Z : State) (a0 : Array Value) (hw : own_W a0 Z) (ws : List Jvm.Cond) (u0 : Addr) (zC : Int32) (h0 : Heap) (n0 : Nat) (Z0 : n0 ≤ h0.size) (P_E_u0 : Exa Z h0 u0 "java/lang/StringBuilder") (P_F_u0_AbstractStringBuilder_coder : Fld Z h0 u0 "java/lang/AbstractStringBuilder" "coder" "B" (.int (0 : Int32))) (P_S_String_COMPACT_STRINGS : Sta Z h0 "java/lang/String" "COMPACT_STRINGS" "Z" (.int zC)) (hz : ¬ (zC = (0 : Int32))) :
    own_MF l own_y18 (Jvm.Cond.code own_y18 jdk_68_method_68_code 1 (some .boolean)) ws ({ frames := 0, cells := 0, slots := 0, locals := 0 } : Room) #[(.ref u0)] Z h0 (own_QP (some (.int (1 : Int32))) h0 n0) := by
  refine own_enter (n0 := n0) (plainFor_of_name pn_8) (C := "java/lang/AbstractStringBuilder") rfl (fun m => ef_rmIL m u0) fun p e s m below meth c s₁ Bd hx hby hml hown hnm hZ hh X0 e0 N0 pre0 => ?_
  obtain ⟨T1, X1, e1, st1⟩ := getS2 X0 hx hZ hown (host := "") (Or.inl (oG hw 68 rfl)) Via.refl e0 P_S_String_COMPACT_STRINGS (g := (mkF m 0 #[rv u0] [])) rfl (oD hby D20 0 rfl)
  obtain ⟨T2, X2, e2, st2⟩ := getF X1 hx hZ hown (host := "") (Or.inl (oG hw 71 rfl)) Via.refl e1 P_F_u0_AbstractStringBuilder_coder (g := (mkF m 7 #[rv u0] [(.ref u0)])) rfl rfl (oD hby D20 3 rfl)
  obtain ⟨fs, hr, hrun, hended, hW, hsame⟩ := X2.leave (v := some (.int (1 : Int32))) (fun h => by rw [Bd.returns] at h; cases h)
  refine ⟨_, _, pre0 _ ?_, hrun, hended, _, _, rfl, ?_, ⟨_, rfl⟩, hW, hsame.mono (by decide) (by decide)⟩
  · refine st1 _ ?_
    refine XS.ifNo X1.here hx rfl (oD hby D20 1 rfl) rfl ((if0 _ _).trans (feq hz).1) ?_
    refine XS.aloadN X1.here hx rfl (oD hby D20 2 rfl) rfl rfl ?_
    refine st2 _ ?_
    refine XS.ifNo X2.here hx rfl (oD hby D20 4 rfl) rfl ((if0 _ _).trans (teq (by decide : (0 : Int32) = (0 : Int32))).2) ?_
    refine XS.iconst X2.here hx rfl (oD hby D20 5 rfl) ?_
    refine XS.goto X2.here hx rfl (pc0 := 14) (pc' := 18) rfl (oD hby D20 6 rfl) (by decide) (by decide) ?_
    show Steps _ _ _ (T2.setTop (mkF m 18 #[rv u0] [(.int (1 : Int32))])) _
    exact retN X2 hx (t := .boolean) Bd.returns (by simp) (oD hby D20 7 rfl) hr
  · show own_QP (some (.int (1 : Int32))) h0 n0 _ T2.heap _
    rw [e2]
    exact ⟨rfl, N0, rfl⟩

theorem ef_rmNL (m : MethodId) (x0 : Int32) (x1 : Int32) (x2 : Int32) : entryFrame m #[(.int x0), (.int x1), (.int x2)] 4 = mkF m 0 #[iv x0, iv x1, iv x2, .unset] [] := by first | (simp [entryFrame, mkF, argsToLocals, Value.category]; done) | rfl
theorem rmNL (l : Launch) (Z : State) (a0 : Array Value) (hw : own_W a0 Z) (ws : List Jvm.Cond) (p1 : Int32) (h0 : Heap) (n0 : Nat) (Z0 : n0 ≤ h0.size) (wm : own_max p1 (18 : Int32) = (18 : Int32)) :
    own_MF l own_y19 (Jvm.Cond.code own_y19 jdk_48_method_27_code 4 (some .int)) ws ({ frames := 1, cells := 0, slots := 0, locals := 14 } : Room) #[(.int (16 : Int32)), (.int p1), (.int (18 : Int32))] Z h0 (own_QP (some (.int (34 : Int32))) h0 n0) := by
  refine own_enter (n0 := n0) (plainFor_of_name pn_44) (C := "jdk/internal/util/ArraysSupport") rfl (fun m => ef_rmNL m (16 : Int32) p1 (18 : Int32)) fun p e s m below meth c s₁ Bd hx hby hml hown hnm hZ hh X0 e0 N0 pre0 => ?_
  obtain ⟨_, T1, L1, X1, hQ1, st1⟩ := own_cS X0 hx hown hZ (oG hw 258 rfl) (oG hw 259 rfl) (oG hw 184 rfl) (oG hw 260 rfl) (by decide) (rmMx l Z a0 hw [] p1 (18 : Int32) h0 n0 Z0 ) (W := 1) (by decide) (by decide) (g := (mkF m 3 #[iv (16 : Int32), iv p1, iv (18 : Int32), .unset] [(.int (18 : Int32)), (.int p1), (.int (16 : Int32))])) rfl (by rw [hml]; rfl) (argsL := [(.int p1), (.int (18 : Int32))]) (rest := [(.int (16 : Int32))]) (lenOf pd5 rfl) rfl (own_ww rfl) (oD hby D44 3 rfl) e0 rfl (by decide) (by decide)
  obtain ⟨rfl, N1q, e1⟩ := hQ1
  have N1 := Fr.app N0 N1q
  have pre2 : own_V p e below _ T1 (mkF m 6 #[iv (16 : Int32), iv p1, iv (18 : Int32), .unset] [(.int (own_max p1 (18 : Int32))), (.int (16 : Int32))]) := fun t kt => pre0 t (by
   refine XS.iloadN X0.here hx rfl (oD hby D44 0 rfl) rfl ?_
   refine XS.iloadN X0.here hx rfl (oD hby D44 1 rfl) rfl ?_
   refine XS.iloadN X0.here hx rfl (oD hby D44 2 rfl) rfl ?_
   refine st1 _ ?_
   exact kt)
  rw [wm] at pre2
  obtain ⟨fs, hr, hrun, hended, hW, hsame⟩ := X1.leave (v := some (.int (34 : Int32))) (fun h => by rw [Bd.returns] at h; cases h)
  refine ⟨_, _, pre2 _ ?_, hrun, hended, _, _, rfl, ?_, ⟨_, rfl⟩, hW, hsame.mono (by decide) (by decide)⟩
  · refine XS.iadd X1.here hx rfl (oD hby D44 4 rfl) rfl ?_
    refine XS.istoreN X1.here hx rfl (oD hby D44 5 rfl) rfl rfl ?_
    refine XS.iconst X1.here hx rfl (oD hby D44 6 rfl) ?_
    refine XS.iloadN X1.here hx rfl (oD hby D44 7 rfl) rfl ?_
    refine XS.icmpNo X1.here hx rfl (oD hby D44 8 rfl) rfl (tlt (by decide : (0 : Int32) < (34 : Int32))).2.1 ?_
    refine XS.iloadN X1.here hx rfl (oD hby D44 9 rfl) rfl ?_
    refine X1.ldcInt hx hown (mvT hZ (oG hw 261 rfl)) (g := (mkF m 14 #[iv (16 : Int32), iv p1, iv (18 : Int32), iv (34 : Int32)] [(.int (34 : Int32))])) rfl (oD hby D44 10 rfl) _ ?_
    refine XS.icmpNo X1.here hx rfl (oD hby D44 11 rfl) rfl (flt (by decide : ¬ ((2147483639 : Int32) < (34 : Int32)))).2.2.1 ?_
    refine XS.iloadN X1.here hx rfl (oD hby D44 12 rfl) rfl ?_
    show Steps _ _ _ (T1.setTop (mkF m 20 #[iv (16 : Int32), iv p1, iv (18 : Int32), iv (34 : Int32)] [(.int (34 : Int32))])) _
    exact retI X1 hx Bd.returns (oD hby D44 13 rfl) hr
  · show own_QP (some (.int (34 : Int32))) h0 n0 _ T1.heap _
    rw [e1]
    exact ⟨rfl, N1, rfl⟩

theorem ef_rmNC (m : MethodId) (x0 : Addr) (x1 : Int32) : entryFrame m #[(.ref x0), (.int x1)] 6 = mkF m 0 #[rv x0, iv x1, .unset, .unset, .unset, .unset] [] := by first | (simp [entryFrame, mkF, argsToLocals, Value.category]; done) | rfl
theorem rmNC (l : Launch) (Z : State) (a0 : Array Value) (hw : own_W a0 Z) (ws : List Jvm.Cond) (u0 : Addr) (p1 : Int32) (bv : Addr) (kb : ClassId) (bs : List Value) (h0 : Heap) (n0 : Nat) (Z0 : n0 ≤ h0.size) (P_E_u0 : Exa Z h0 u0 "java/lang/StringBuilder") (P_F_u0_AbstractStringBuilder_value : Fld Z h0 u0 "java/lang/AbstractStringBuilder" "value" "[B" (.ref bv)) (P_F_u0_AbstractStringBuilder_coder : Fld Z h0 u0 "java/lang/AbstractStringBuilder" "coder" "B" (.int (0 : Int32))) (P_G_bv : Arv Z h0 bv kb .byte (16 : Int32) bs (.int 0)) (wm : own_max (p1 - (16 : Int32)) (18 : Int32) = (18 : Int32)) :
    own_MF l own_y20 (Jvm.Cond.code own_y20 jdk_68_method_10_code 6 (some .int)) ws ({ frames := 2, cells := 0, slots := 0, locals := 29 } : Room) #[(.ref u0), (.int p1)] Z h0 (own_QP (some (.int (34 : Int32))) h0 n0) := by
  refine own_enter (n0 := n0) (plainFor_of_name pn_8) (C := "java/lang/AbstractStringBuilder") rfl (fun m => ef_rmNC m u0 p1) fun p e s m below meth c s₁ Bd hx hby hml hown hnm hZ hh X0 e0 N0 pre0 => ?_
  obtain ⟨T1, X1, e1, st1⟩ := getF X0 hx hZ hown (host := "") (Or.inl (oG hw 69 rfl)) Via.refl e0 P_F_u0_AbstractStringBuilder_value (g := (mkF m 1 #[rv u0, iv p1, .unset, .unset, .unset, .unset] [(.ref u0)])) rfl rfl (oD hby D43 1 rfl)
  obtain ⟨cl2, Ar2, qq2, S2, N2_, H2, G2⟩ := id P_G_bv
  obtain ⟨T3, X3, e3, st3⟩ := getF X1 hx hZ hown (host := "") (Or.inl (oG hw 71 rfl)) Via.refl e1 P_F_u0_AbstractStringBuilder_coder (g := (mkF m 8 #[rv u0, iv p1, iv (16 : Int32), .unset, .unset, .unset] [(.ref u0), (.int p1)])) rfl rfl (oD hby D43 6 rfl)
  obtain ⟨T4, X4, e4, st4⟩ := getF X3 hx hZ hown (host := "") (Or.inl (oG hw 71 rfl)) Via.refl e3 P_F_u0_AbstractStringBuilder_coder (g := (mkF m 24 #[rv u0, iv p1, iv (16 : Int32), iv p1, iv (p1 - (16 : Int32)), .unset] [(.ref u0), (.int (2 : Int32)), (.int (16 : Int32)), (.int (p1 - (16 : Int32))), (.int (16 : Int32))])) rfl rfl (oD hby D43 18 rfl)
  obtain ⟨_, T5, L5, X5, hQ5, st5⟩ := own_cS X4 hx hown hZ (oG hw 254 rfl) (oG hw 255 rfl) (oG hw 256 rfl) (oG hw 257 rfl) (by decide) (rmNL l Z a0 hw [] (p1 - (16 : Int32)) h0 n0 Z0 wm) (W := 0) (by decide) (by decide) (g := (mkF m 29 #[rv u0, iv p1, iv (16 : Int32), iv p1, iv (p1 - (16 : Int32)), .unset] [(.int (18 : Int32)), (.int (p1 - (16 : Int32))), (.int (16 : Int32))])) rfl (by rw [hml]; rfl) (argsL := [(.int (16 : Int32)), (.int (p1 - (16 : Int32))), (.int (18 : Int32))]) (rest := []) (lenOf pd9 rfl) rfl (own_ww rfl) (oD hby D43 21 rfl) e4 rfl (by decide) (by decide)
  obtain ⟨rfl, N5q, e5⟩ := hQ5
  have N5 := Fr.app N0 N5q
  obtain ⟨T6, X6, e6, st6⟩ := getF X5 hx hZ hown (host := "") (Or.inl (oG hw 71 rfl)) Via.refl e5 P_F_u0_AbstractStringBuilder_coder (g := (mkF m 54 #[rv u0, iv p1, iv (16 : Int32), iv p1, iv (p1 - (16 : Int32)), iv (34 : Int32)] [(.ref u0), (.int (34 : Int32))])) rfl rfl (oD hby D43 28 rfl)
  obtain ⟨fs, hr, hrun, hended, hW, hsame⟩ := X6.leave (v := some (.int (34 : Int32))) (fun h => by rw [Bd.returns] at h; cases h)
  refine ⟨_, _, pre0 _ ?_, hrun, hended, _, _, rfl, ?_, ⟨_, rfl⟩, hW, hsame.mono (by decide) (by decide)⟩
  · refine XS.aloadN X0.here hx rfl (oD hby D43 0 rfl) rfl rfl ?_
    refine st1 _ ?_
    refine X1.arraylength hx (by rw [e1]; exact Ar2.1) (State.isArrayOf_alike hZ.alike Ar2.2.1) (g := (mkF m 4 #[rv u0, iv p1, .unset, .unset, .unset, .unset] [(.ref bv)])) rfl rfl (oD hby D43 2 rfl) _ ?_
    rw [len_of S2 N2_]
    refine XS.istoreN X1.here hx rfl (oD hby D43 3 rfl) rfl rfl ?_
    refine XS.iloadN X1.here hx rfl (oD hby D43 4 rfl) rfl ?_
    refine XS.aloadN X1.here hx rfl (oD hby D43 5 rfl) rfl rfl ?_
    refine st3 _ ?_
    refine XS.ishl X3.here hx rfl (oD hby D43 7 rfl) rfl ?_
    show Steps _ _ _ (T3.setTop (mkF m 12 #[rv u0, iv p1, iv (16 : Int32), .unset, .unset, .unset] [(.int (p1 <<< ((0 : Int32) &&& 31)))])) _
    rw [own_shl0 p1]
    refine XS.istoreN X3.here hx rfl (oD hby D43 8 rfl) rfl rfl ?_
    refine XS.iloadN X3.here hx rfl (oD hby D43 9 rfl) rfl ?_
    refine XS.iloadN X3.here hx rfl (oD hby D43 10 rfl) rfl ?_
    refine XS.isub X3.here hx rfl (oD hby D43 11 rfl) rfl ?_
    refine XS.istore X3.here hx rfl (oD hby D43 12 rfl) rfl rfl ?_
    refine XS.iloadN X3.here hx rfl (oD hby D43 13 rfl) rfl ?_
    refine XS.iload X3.here hx rfl (oD hby D43 14 rfl) rfl ?_
    refine XS.iloadN X3.here hx rfl (oD hby D43 15 rfl) rfl ?_
    refine XS.iconst X3.here hx rfl (oD hby D43 16 rfl) ?_
    refine XS.aloadN X3.here hx rfl (oD hby D43 17 rfl) rfl rfl ?_
    refine st4 _ ?_
    refine XS.ishl X4.here hx rfl (oD hby D43 19 rfl) rfl ?_
    show Steps _ _ _ (T4.setTop (mkF m 28 #[rv u0, iv p1, iv (16 : Int32), iv p1, iv (p1 - (16 : Int32)), .unset] [(.int ((2 : Int32) <<< ((0 : Int32) &&& 31))), (.int (16 : Int32)), (.int (p1 - (16 : Int32))), (.int (16 : Int32))])) _
    rw [(by decide : ((2 : Int32) <<< ((0 : Int32) &&& 31)) = (2 : Int32))]
    refine XS.iadd X4.here hx rfl (oD hby D43 20 rfl) rfl ?_
    refine st5 _ ?_
    refine XS.istore X5.here hx rfl (oD hby D43 22 rfl) rfl rfl ?_
    refine XS.iload X5.here hx rfl (oD hby D43 23 rfl) rfl ?_
    show Steps _ _ _ (T5.setTop (mkF m 36 #[rv u0, iv p1, iv (16 : Int32), iv p1, iv (p1 - (16 : Int32)), iv (34 : Int32)] [(.int (34 : Int32))])) _
    refine X5.ldcInt hx hown (mvT hZ (oG hw 262 rfl)) (g := (mkF m 36 #[rv u0, iv p1, iv (16 : Int32), iv p1, iv (p1 - (16 : Int32)), iv (34 : Int32)] [(.int (34 : Int32))])) rfl (oD hby D43 24 rfl) _ ?_
    refine XS.icmpYes X5.here hx rfl (pc0 := 38) (pc' := 51) rfl (oD hby D43 25 rfl) rfl (feq (by decide : ¬ ((34 : Int32) = (2147483647 : Int32)))).2 (by decide) (by decide) ?_
    refine XS.iload X5.here hx rfl (oD hby D43 26 rfl) rfl ?_
    refine XS.aloadN X5.here hx rfl (oD hby D43 27 rfl) rfl rfl ?_
    refine st6 _ ?_
    refine XS.ishr X6.here hx rfl (oD hby D43 29 rfl) rfl ?_
    show Steps _ _ _ (T6.setTop (mkF m 58 #[rv u0, iv p1, iv (16 : Int32), iv p1, iv (p1 - (16 : Int32)), iv (34 : Int32)] [(.int ((34 : Int32) >>> ((0 : Int32) &&& 31)))])) _
    rw [(by decide : ((34 : Int32) >>> ((0 : Int32) &&& 31)) = (34 : Int32))]
    show Steps _ _ _ (T6.setTop (mkF m 58 #[rv u0, iv p1, iv (16 : Int32), iv p1, iv (p1 - (16 : Int32)), iv (34 : Int32)] [(.int (34 : Int32))])) _
    exact retI X6 hx Bd.returns (oD hby D43 30 rfl) hr
  · show own_QP (some (.int (34 : Int32))) h0 n0 _ T6.heap _
    rw [e6]
    exact ⟨rfl, N5, rfl⟩

theorem ef_rmCO (m : MethodId) (x0 : Addr) (x1 : Int32) : entryFrame m #[(.ref x0), (.int x1)] 3 = mkF m 0 #[rv x0, iv x1, .unset] [] := by first | (simp [entryFrame, mkF, argsToLocals, Value.category]; done) | rfl
def Q_rmCO (Z : State) (u0 : Addr) (kt : ClassId) (vs : List Value) (xl : List Int32) (h0 : Heap) (n0 : Nat) (v : Option Value) (h : Heap) (L : List Loc) : Prop := ∃ (yv : Addr), ∃ (ky : ClassId), ∃ (ys : List Value), (v = (some (.ref yv)) ∧ Fr n0 L ∧ Keep h0 h [] ∧ h0.size ≤ yv ∧ Exa Z h yv "[B" ∧ Arv Z h yv ky .byte (34 : Int32) ys (.int 0) ∧ (own_has ys xl ∧ own_cap (34 : Int32) ys))
theorem rmCO (l : Launch) (Z : State) (a0 : Array Value) (hw : own_W a0 Z) (ws : List Jvm.Cond) (u0 : Addr) (kt : ClassId) (vs : List Value) (xl : List Int32) (h0 : Heap) (n0 : Nat) (Z0 : n0 ≤ h0.size) (P_G_u0 : Arv Z h0 u0 kt .byte (16 : Int32) vs (.int 0)) (wh : own_has vs xl) (w16 : xl.length ≤ 16) :
    own_MF l own_y21 (Jvm.Cond.code own_y21 jdk_65_method_121_code 3 (some (.array .byte))) ws ({ frames := 1, cells := 1, slots := 34, locals := 18 } : Room) #[(.ref u0), (.int (34 : Int32))] Z h0 (Q_rmCO Z u0 kt vs xl h0 n0) := by
  refine own_enter (n0 := n0) (plainFor_of_name pn_30) (C := "java/util/Arrays") rfl (fun m => ef_rmCO m u0 (34 : Int32)) fun p e s m below meth c s₁ Bd hx hby hml hown hnm hZ hh X0 e0 N0 pre0 => ?_
  obtain ⟨cl1, Ar1, qq1, S1, N1_, H1, G1⟩ := id P_G_u0
  obtain ⟨T2, h2, k2, X2, e2, E2, A2, Q2, st2⟩ := newPE X0 hx hZ (oG hw 15 rfl) e0 (g := (mkF m 15 #[rv u0, iv (34 : Int32), .unset] [(.int (34 : Int32))])) rfl (oD hby D46 5 rfl) rfl (by decide) (cap := 34) (by decide) (by decide) (by decide) (by decide) (ad := "[B") rfl
  obtain ⟨b2, g2⟩ : ∃ z, z = h0.size := ⟨_, rfl⟩
  rw [← g2] at A2 st2 Q2
  have ne3 : u0 ≠ b2 := Nat.ne_of_lt (Nat.lt_of_lt_of_le P_G_u0.lt (Nat.le_of_eq g2.symm))
  have o2 : n0 ≤ b2 := Nat.le_trans Z0 (Nat.le_of_eq g2.symm)
  have z2 : h0.size ≤ b2 := Nat.le_trans (Keep.refl h0 []).1 (Nat.le_of_eq g2.symm)
  have K2 : Keep h0 h2 [] := (Keep.refl h0 []).ext E2
  have V2 : Arv Z h2 b2 k2 .byte (34 : Int32) [(.int (0 : Int32)), (.int (0 : Int32)), (.int (0 : Int32)), (.int (0 : Int32)), (.int (0 : Int32)), (.int (0 : Int32)), (.int (0 : Int32)), (.int (0 : Int32)), (.int (0 : Int32)), (.int (0 : Int32)), (.int (0 : Int32)), (.int (0 : Int32)), (.int (0 : Int32)), (.int (0 : Int32)), (.int (0 : Int32)), (.int (0 : Int32)), (.int (0 : Int32)), (.int (0 : Int32)), (.int (0 : Int32)), (.int (0 : Int32)), (.int (0 : Int32)), (.int (0 : Int32)), (.int (0 : Int32)), (.int (0 : Int32)), (.int (0 : Int32)), (.int (0 : Int32)), (.int (0 : Int32)), (.int (0 : Int32)), (.int (0 : Int32)), (.int (0 : Int32)), (.int (0 : Int32)), (.int (0 : Int32)), (.int (0 : Int32)), (.int (0 : Int32))] (.int (0 : Int32)) := (Arv.new A2 (by decide)).pad (pad_rep [] (.int (0 : Int32)) 34)
  have f4 := (P_G_u0.ext E2)
  obtain ⟨cl5, Ar5, qq5, S5, N5_, H5, G5⟩ := id f4
  have f6 := (Nat.le_trans Z0 E2.1)
  obtain ⟨_, T7, L7, X7, hQ7, st7⟩ := own_cS X2 hx hown hZ (oG hw 182 rfl) (oG hw 183 rfl) (oG hw 184 rfl) (oG hw 185 rfl) (by decide) (rmMi l Z a0 hw [] (16 : Int32) (34 : Int32) h2 n0 f6 ) (W := 4) (by decide) (by decide) (g := (mkF m 25 #[rv u0, iv (34 : Int32), rv b2] [(.int (34 : Int32)), (.int (16 : Int32)), (.int (0 : Int32)), (.ref b2), (.int (0 : Int32)), (.ref u0)])) rfl (by rw [hml]; rfl) (argsL := [(.int (16 : Int32)), (.int (34 : Int32))]) (rest := [(.int (0 : Int32)), (.ref b2), (.int (0 : Int32)), (.ref u0)]) (lenOf pd5 rfl) rfl (own_ww rfl) (oD hby D46 14 rfl) e2 rfl (by decide) (by decide)
  obtain ⟨rfl, N7q, e7⟩ := hQ7
  have N7 := Fr.app N0 N7q
  have pre8 : own_V p e below _ T7 (mkF m 28 #[rv u0, iv (34 : Int32), rv b2] [(.int (own_min (16 : Int32) (34 : Int32))), (.int (0 : Int32)), (.ref b2), (.int (0 : Int32)), (.ref u0)]) := fun t kt => pre0 t (by
   refine XS.iloadN X0.here hx rfl (oD hby D46 0 rfl) rfl ?_
   refine XS.aloadN X0.here hx rfl (oD hby D46 1 rfl) rfl rfl ?_
   refine X0.arraylength hx (by rw [e0]; exact Ar1.1) (State.isArrayOf_alike hZ.alike Ar1.2.1) (g := (mkF m 2 #[rv u0, iv (34 : Int32), .unset] [(.ref u0), (.int (34 : Int32))])) rfl rfl (oD hby D46 2 rfl) _ ?_
   rw [len_of S1 N1_]
   refine XS.icmpYes X0.here hx rfl (pc0 := 3) (pc' := 14) rfl (oD hby D46 3 rfl) rfl (feq (by decide : ¬ ((34 : Int32) = (16 : Int32)))).2 (by decide) (by decide) ?_
   refine XS.iloadN X0.here hx rfl (oD hby D46 4 rfl) rfl ?_
   refine st2 _ ?_
   refine XS.astoreN X2.here hx rfl (oD hby D46 6 rfl) rfl rfl rfl ?_
   refine XS.aloadN X2.here hx rfl (oD hby D46 7 rfl) rfl rfl ?_
   refine XS.iconst X2.here hx rfl (oD hby D46 8 rfl) ?_
   refine XS.aloadN X2.here hx rfl (oD hby D46 9 rfl) rfl rfl ?_
   refine XS.iconst X2.here hx rfl (oD hby D46 10 rfl) ?_
   refine XS.aloadN X2.here hx rfl (oD hby D46 11 rfl) rfl rfl ?_
   refine X2.arraylength hx (by rw [e2]; exact Ar5.1) (State.isArrayOf_alike hZ.alike Ar5.2.1) (g := (mkF m 23 #[rv u0, iv (34 : Int32), rv b2] [(.ref u0), (.int (0 : Int32)), (.ref b2), (.int (0 : Int32)), (.ref u0)])) rfl rfl (oD hby D46 12 rfl) _ ?_
   rw [len_of S5 N5_]
   refine XS.iloadN X2.here hx rfl (oD hby D46 13 rfl) rfl ?_
   refine st7 _ ?_
   exact kt)
  rw [(rfl : own_min (16 : Int32) (34 : Int32) = (16 : Int32))] at pre8
  obtain ⟨T9, h9, L9, X9, e9, N9, K9, V9_, st9⟩ := cpA X7 hx hZ hown (oG hw 186 rfl) (oG hw 120 rfl) (oG hw 118 rfl) (oG hw 119 rfl) e7 f4 V2  (Or.inl ⟨rfl, rfl⟩) (sp := (0 : Int32)) (dp := (0 : Int32)) (nn := (16 : Int32)) (by decide) (by decide) (by decide) (by decide) (by decide) rfl (Nat.le_of_ble_eq_true rfl) N7 o2 (g := (mkF m 28 #[rv u0, iv (34 : Int32), rv b2] [(.int (16 : Int32)), (.int (0 : Int32)), (.ref b2), (.int (0 : Int32)), (.ref u0)])) rfl (by rw [hml]; rfl) rfl (oD hby D46 15 rfl) (by decide) (W := 0) (by show 2 * 0 + _ ≤ _; exact Nat.le_of_eq rfl) (by decide)
  have KK9 : Keep h0 h9 [] := Keep.trans K2 K9 (allS (Or.inr z2) all0)
  obtain ⟨vx9, V9, hvx9⟩ : ∃ vx, Arv Z h9 b2 k2 .byte (34 : Int32) vx (.int 0) ∧ vx = ([(.int (0 : Int32)), (.int (0 : Int32)), (.int (0 : Int32)), (.int (0 : Int32)), (.int (0 : Int32)), (.int (0 : Int32)), (.int (0 : Int32)), (.int (0 : Int32)), (.int (0 : Int32)), (.int (0 : Int32)), (.int (0 : Int32)), (.int (0 : Int32)), (.int (0 : Int32)), (.int (0 : Int32)), (.int (0 : Int32)), (.int (0 : Int32)), (.int (0 : Int32)), (.int (0 : Int32)), (.int (0 : Int32)), (.int (0 : Int32)), (.int (0 : Int32)), (.int (0 : Int32)), (.int (0 : Int32)), (.int (0 : Int32)), (.int (0 : Int32)), (.int (0 : Int32)), (.int (0 : Int32)), (.int (0 : Int32)), (.int (0 : Int32)), (.int (0 : Int32)), (.int (0 : Int32)), (.int (0 : Int32)), (.int (0 : Int32)), (.int (0 : Int32))]).take ((0 : Int32)).toNatClampNeg ++ (List.range ((16 : Int32)).toNatClampNeg).map (fun i => (vs).getD (((0 : Int32)).toNatClampNeg + i) (.int 0)) ++ ([(.int (0 : Int32)), (.int (0 : Int32)), (.int (0 : Int32)), (.int (0 : Int32)), (.int (0 : Int32)), (.int (0 : Int32)), (.int (0 : Int32)), (.int (0 : Int32)), (.int (0 : Int32)), (.int (0 : Int32)), (.int (0 : Int32)), (.int (0 : Int32)), (.int (0 : Int32)), (.int (0 : Int32)), (.int (0 : Int32)), (.int (0 : Int32)), (.int (0 : Int32)), (.int (0 : Int32)), (.int (0 : Int32)), (.int (0 : Int32)), (.int (0 : Int32)), (.int (0 : Int32)), (.int (0 : Int32)), (.int (0 : Int32)), (.int (0 : Int32)), (.int (0 : Int32)), (.int (0 : Int32)), (.int (0 : Int32)), (.int (0 : Int32)), (.int (0 : Int32)), (.int (0 : Int32)), (.int (0 : Int32)), (.int (0 : Int32)), (.int (0 : Int32))]).drop (((0 : Int32)).toNatClampNeg + ((16 : Int32)).toNatClampNeg) := ⟨_, V9_, rfl⟩
  obtain ⟨fs, hr, hrun, hended, hW, hsame⟩ := X9.leave (v := some (.ref b2)) (fun h => by rw [Bd.returns] at h; cases h)
  have f10 := (Q2.keep K9)
  refine ⟨_, _, pre8 _ ?_, hrun, hended, _, _, rfl, ?_, ⟨_, rfl⟩, hW, hsame.mono (by decide) (by decide)⟩
  · refine st9 _ ?_
    refine XS.aloadN X9.here hx rfl (oD hby D46 16 rfl) rfl rfl ?_
    show Steps _ _ _ (T9.setTop (mkF m 32 #[rv u0, iv (34 : Int32), rv b2] [(.ref b2)])) _
    exact retOut X9 hx Bd.returns rfl (Or.inr (Or.inr (Or.inr (Or.inr ⟨rfl, rfl, rfl⟩)))) (oD hby D46 17 rfl) hr
  · show Q_rmCO Z u0 kt vs xl h0 n0 _ T9.heap _
    rw [e9]
    exact ⟨b2, k2, vx9, rfl, N9, KK9, z2, f10, V9, (own_co wh w16 hvx9)⟩

theorem ef_rmE0 (m : MethodId) (x0 : Addr) (x1 : Int32) : entryFrame m #[(.ref x0), (.int x1)] 3 = mkF m 0 #[rv x0, iv x1, .unset] [] := by first | (simp [entryFrame, mkF, argsToLocals, Value.category]; done) | rfl
theorem rmE0 (l : Launch) (Z : State) (a0 : Array Value) (hw : own_W a0 Z) (ws : List Jvm.Cond) (u0 : Addr) (p1 : Int32) (bv : Addr) (kb : ClassId) (cap : Int32) (bs : List Value) (cnt : Int32) (h0 : Heap) (n0 : Nat) (Z0 : n0 ≤ h0.size) (P_E_u0 : Exa Z h0 u0 "java/lang/StringBuilder") (P_F_u0_AbstractStringBuilder_value : Fld Z h0 u0 "java/lang/AbstractStringBuilder" "value" "[B" (.ref bv)) (P_F_u0_AbstractStringBuilder_coder : Fld Z h0 u0 "java/lang/AbstractStringBuilder" "coder" "B" (.int (0 : Int32))) (P_F_u0_AbstractStringBuilder_count : Fld Z h0 u0 "java/lang/AbstractStringBuilder" "count" "I" (.int cnt)) (P_E_bv : Exa Z h0 bv "[B") (P_G_bv : Arv Z h0 bv kb .byte cap bs (.int 0)) (wng : ¬ (0 : Int32) < (p1 - cap)) :
    own_MF l own_y16 (Jvm.Cond.code own_y16 jdk_68_method_9_code 3 none) ws ({ frames := 0, cells := 0, slots := 0, locals := 0 } : Room) #[(.ref u0), (.int p1)] Z h0 (own_QP none h0 n0) := by
  refine own_enter (n0 := n0) (plainFor_of_name pn_8) (C := "java/lang/AbstractStringBuilder") rfl (fun m => ef_rmE0 m u0 p1) fun p e s m below meth c s₁ Bd hx hby hml hown hnm hZ hh X0 e0 N0 pre0 => ?_
  obtain ⟨T1, X1, e1, st1⟩ := getF X0 hx hZ hown (host := "") (Or.inl (oG hw 69 rfl)) Via.refl e0 P_F_u0_AbstractStringBuilder_value (g := (mkF m 1 #[rv u0, iv p1, .unset] [(.ref u0)])) rfl rfl (oD hby D13 1 rfl)
  obtain ⟨cl2, Ar2, qq2, S2, N2_, H2, G2⟩ := id P_G_bv
  obtain ⟨T3, X3, e3, st3⟩ := getF X1 hx hZ hown (host := "") (Or.inl (oG hw 71 rfl)) Via.refl e1 P_F_u0_AbstractStringBuilder_coder (g := (mkF m 6 #[rv u0, iv p1, .unset] [(.ref u0), (.int cap)])) rfl rfl (oD hby D13 4 rfl)
  obtain ⟨fs, hr, hrun, hended, hW, hsame⟩ := X3.leave (v := none) (fun _ => rfl)
  refine ⟨_, _, pre0 _ ?_, hrun, hended, _, _, rfl, ?_, ⟨_, rfl⟩, hW, hsame.mono (by decide) (by decide)⟩
  · refine XS.aloadN X0.here hx rfl (oD hby D13 0 rfl) rfl rfl ?_
    refine st1 _ ?_
    refine X1.arraylength hx (by rw [e1]; exact Ar2.1) (State.isArrayOf_alike hZ.alike Ar2.2.1) (g := (mkF m 4 #[rv u0, iv p1, .unset] [(.ref bv)])) rfl rfl (oD hby D13 2 rfl) _ ?_
    rw [len_of S2 N2_]
    refine XS.aloadN X1.here hx rfl (oD hby D13 3 rfl) rfl rfl ?_
    refine st3 _ ?_
    refine XS.ishr X3.here hx rfl (oD hby D13 5 rfl) rfl ?_
    show Steps _ _ _ (T3.setTop (mkF m 10 #[rv u0, iv p1, .unset] [(.int (cap >>> ((0 : Int32) &&& 31)))])) _
    rw [own_shr0 cap]
    refine XS.istoreN X3.here hx rfl (oD hby D13 6 rfl) rfl rfl ?_
    refine XS.iloadN X3.here hx rfl (oD hby D13 7 rfl) rfl ?_
    refine XS.iloadN X3.here hx rfl (oD hby D13 8 rfl) rfl ?_
    refine XS.isub X3.here hx rfl (oD hby D13 9 rfl) rfl ?_
    refine XS.ifYes X3.here hx rfl (pc0 := 14) (pc' := 38) rfl (oD hby D13 10 rfl) rfl ((if0 _ _).trans (flt wng).2.2.2) (by decide) (by decide) ?_
    show Steps _ _ _ (T3.setTop (mkF m 38 #[rv u0, iv p1, iv cap] [])) _
    exact X3.returnOut hx Bd.returns (oD hby D13 11 rfl) hr
  · show own_QP none h0 n0 _ T3.heap _
    rw [e3]
    exact ⟨rfl, N0, rfl⟩

theorem ef_rmE1 (m : MethodId) (x0 : Addr) (x1 : Int32) : entryFrame m #[(.ref x0), (.int x1)] 3 = mkF m 0 #[rv x0, iv x1, .unset] [] := by first | (simp [entryFrame, mkF, argsToLocals, Value.category]; done) | rfl
def Q_rmE1 (Z : State) (u0 : Addr) (p1 : Int32) (bv : Addr) (kb : ClassId) (bs : List Value) (cnt : Int32) (xl : List Int32) (h0 : Heap) (n0 : Nat) (v : Option Value) (h : Heap) (L : List Loc) : Prop := ∃ (t1 : Addr), ∃ (k1 : ClassId), ∃ (b1 : List Value), (v = none ∧ Fr n0 L ∧ Keep h0 h [u0] ∧ h0.size ≤ t1 ∧ Exa Z h u0 "java/lang/StringBuilder" ∧ Fld Z h u0 "java/lang/AbstractStringBuilder" "value" "[B" (.ref t1) ∧ Fld Z h u0 "java/lang/AbstractStringBuilder" "coder" "B" (.int (0 : Int32)) ∧ Fld Z h u0 "java/lang/AbstractStringBuilder" "count" "I" (.int cnt) ∧ Exa Z h t1 "[B" ∧ Arv Z h t1 k1 .byte (34 : Int32) b1 (.int 0) ∧ (own_has b1 xl ∧ own_cap (34 : Int32) b1))
theorem rmE1 (l : Launch) (Z : State) (a0 : Array Value) (hw : own_W a0 Z) (ws : List Jvm.Cond) (u0 : Addr) (p1 : Int32) (bv : Addr) (kb : ClassId) (bs : List Value) (cnt : Int32) (xl : List Int32) (h0 : Heap) (n0 : Nat) (Z0 : n0 ≤ h0.size) (P_E_u0 : Exa Z h0 u0 "java/lang/StringBuilder") (P_F_u0_AbstractStringBuilder_value : Fld Z h0 u0 "java/lang/AbstractStringBuilder" "value" "[B" (.ref bv)) (P_F_u0_AbstractStringBuilder_coder : Fld Z h0 u0 "java/lang/AbstractStringBuilder" "coder" "B" (.int (0 : Int32))) (P_F_u0_AbstractStringBuilder_count : Fld Z h0 u0 "java/lang/AbstractStringBuilder" "count" "I" (.int cnt)) (P_E_bv : Exa Z h0 bv "[B") (P_G_bv : Arv Z h0 bv kb .byte (16 : Int32) bs (.int 0)) (wg : (0 : Int32) < (p1 - (16 : Int32))) (wp : ¬ (34 : Int32) < p1 ∧ ¬ p1 < 0) (wh : own_has bs xl) (w16 : xl.length ≤ 16) (g_u0 : n0 ≤ u0) :
    own_MF l own_y16 (Jvm.Cond.code own_y16 jdk_68_method_9_code 3 none) ws ({ frames := 3, cells := 1, slots := 34, locals := 48 } : Room) #[(.ref u0), (.int p1)] Z h0 (Q_rmE1 Z u0 p1 bv kb bs cnt xl h0 n0) := by
  refine own_enter (n0 := n0) (plainFor_of_name pn_8) (C := "java/lang/AbstractStringBuilder") rfl (fun m => ef_rmE1 m u0 p1) fun p e s m below meth c s₁ Bd hx hby hml hown hnm hZ hh X0 e0 N0 pre0 => ?_
  obtain ⟨T1, X1, e1, st1⟩ := getF X0 hx hZ hown (host := "") (Or.inl (oG hw 69 rfl)) Via.refl e0 P_F_u0_AbstractStringBuilder_value (g := (mkF m 1 #[rv u0, iv p1, .unset] [(.ref u0)])) rfl rfl (oD hby D13 1 rfl)
  obtain ⟨cl2, Ar2, qq2, S2, N2_, H2, G2⟩ := id P_G_bv
  obtain ⟨T3, X3, e3, st3⟩ := getF X1 hx hZ hown (host := "") (Or.inl (oG hw 71 rfl)) Via.refl e1 P_F_u0_AbstractStringBuilder_coder (g := (mkF m 6 #[rv u0, iv p1, .unset] [(.ref u0), (.int (16 : Int32))])) rfl rfl (oD hby D13 4 rfl)
  obtain ⟨T4, X4, e4, st4⟩ := getF X3 hx hZ hown (host := "") (Or.inl (oG hw 69 rfl)) Via.refl e3 P_F_u0_AbstractStringBuilder_value (g := (mkF m 19 #[rv u0, iv p1, iv (16 : Int32)] [(.ref u0), (.ref u0)])) rfl rfl (oD hby D13 14 rfl)
  obtain ⟨_, T5, L5, X5, hQ5, st5⟩ := own_cV X4 hx hown hZ (oG hw 249 rfl) (own_decl (oG hw 250 rfl) (oG hw 253 rfl)) (oG hw 252 rfl) (oG hw 250 rfl) (oG hw 65 rfl) (oG hw 253 rfl) (by decide) (rmNC l Z a0 hw [] u0 p1 bv kb bs h0 n0 Z0 P_E_u0 P_F_u0_AbstractStringBuilder_value P_F_u0_AbstractStringBuilder_coder P_G_bv (own_mx wg wp.1 wp.2)) (W := 2) (by decide) (by decide) P_E_u0 (g := (mkF m 24 #[rv u0, iv p1, iv (16 : Int32)] [(.int p1), (.ref u0), (.ref bv), (.ref u0)])) rfl (by rw [hml]; rfl) (argsL := [(.int p1)]) (rest := [(.ref bv), (.ref u0)]) (lenOf pd10 rfl) rfl (own_ww rfl) (oD hby D13 17 rfl) e4 rfl (by decide) (by decide)
  obtain ⟨rfl, N5q, e5⟩ := hQ5
  have N5 := Fr.app N0 N5q
  obtain ⟨T6, X6, e6, st6⟩ := getF X5 hx hZ hown (host := "") (Or.inl (oG hw 71 rfl)) Via.refl e5 P_F_u0_AbstractStringBuilder_coder (g := (mkF m 28 #[rv u0, iv p1, iv (16 : Int32)] [(.ref u0), (.int (34 : Int32)), (.ref bv), (.ref u0)])) rfl rfl (oD hby D13 19 rfl)
  obtain ⟨_, T7, L7, X7, hQ7, st7⟩ := own_cS X6 hx hown hZ (oG hw 263 rfl) (oG hw 264 rfl) (oG hw 174 rfl) (oG hw 265 rfl) (by decide) (rmCO l Z a0 hw [] bv kb bs xl h0 n0 Z0 P_G_bv wh w16) (W := 1) (by decide) (by decide) (g := (mkF m 32 #[rv u0, iv p1, iv (16 : Int32)] [(.int (34 : Int32)), (.ref bv), (.ref u0)])) rfl (by rw [hml]; rfl) (argsL := [(.ref bv), (.int (34 : Int32))]) (rest := [(.ref u0)]) (lenOf pd11 rfl) rfl (own_ww rfl) (oD hby D13 21 rfl) e6 rfl (by decide) (by decide)
  obtain ⟨yv_7, ky_7, ys_7, rfl, N7q, K7, sx7_0, f8, f9, f10⟩ := hQ7
  have oyv_7 : n0 ≤ yv_7 := Nat.le_trans Z0 sx7_0
  have zyv_7 : h0.size ≤ yv_7 := Nat.le_trans (Keep.refl h0 [u0]).1 sx7_0
  have ne11 : u0 ≠ yv_7 := Nat.ne_of_lt (Nat.lt_of_lt_of_le P_E_u0.lt sx7_0)
  have ne12 : bv ≠ yv_7 := Nat.ne_of_lt (Nat.lt_of_lt_of_le P_E_bv.lt sx7_0)
  have KK7 : Keep h0 T7.heap [u0] := Keep.trans (Keep.refl h0 [u0]) K7 all0
  have N7 := Fr.app N5 N7q
  have f13 := (P_E_u0.keep K7)
  have f14 := (P_F_u0_AbstractStringBuilder_value.keep K7 nin0)
  obtain ⟨T15, h15, X15, e15, W15, st15⟩ := putF X7 hx hZ hown (host := "") (Or.inl (oG hw 69 rfl)) Via.refl rfl f14 f13 (Or.inl (oG hw 70 rfl)) (oG hw 56 rfl) (ty := (.array .byte)) (by decide) rfl rfl (g := (mkF m 35 #[rv u0, iv p1, iv (16 : Int32)] [(.ref yv_7), (.ref u0)])) rfl rfl (oD hby D13 22 rfl)
  have f15_ : Fld Z h15 u0 "java/lang/AbstractStringBuilder" "value" "[B" (.ref yv_7) := f14.same W15
  have N16 := Fr.snoc X15 N7 g_u0
  have K17 : Keep h0 h15 [u0] := KK7.wr W15 (Or.inl (List.mem_of_getElem? (i := 0) rfl))
  obtain ⟨fs, hr, hrun, hended, hW, hsame⟩ := X15.leave (v := none) (fun _ => rfl)
  have f18 := (f13.wr W15)
  have f19 := ((P_F_u0_AbstractStringBuilder_coder.keep K7 nin0).other W15 (Or.inr (slot_ne (Or.inl (oG hw 72 rfl)) (Or.inl (oG hw 70 rfl)) (by decide) (t := .byte) (t' := (.array .byte)) (by decide) (by decide))))
  have f20 := ((P_F_u0_AbstractStringBuilder_count.keep K7 nin0).other W15 (Or.inr (slot_ne (Or.inl (oG hw 95 rfl)) (Or.inl (oG hw 70 rfl)) (by decide) (t := .int) (t' := (.array .byte)) (by decide) (by decide))))
  have f21 := (f8.wr W15)
  have f22 := (f9.other W15 (Ne.symm ne11))
  refine ⟨_, _, pre0 _ ?_, hrun, hended, _, _, rfl, ?_, ⟨_, rfl⟩, hW, hsame.mono (by decide) (by decide)⟩
  · refine XS.aloadN X0.here hx rfl (oD hby D13 0 rfl) rfl rfl ?_
    refine st1 _ ?_
    refine X1.arraylength hx (by rw [e1]; exact Ar2.1) (State.isArrayOf_alike hZ.alike Ar2.2.1) (g := (mkF m 4 #[rv u0, iv p1, .unset] [(.ref bv)])) rfl rfl (oD hby D13 2 rfl) _ ?_
    rw [len_of S2 N2_]
    refine XS.aloadN X1.here hx rfl (oD hby D13 3 rfl) rfl rfl ?_
    refine st3 _ ?_
    refine XS.ishr X3.here hx rfl (oD hby D13 5 rfl) rfl ?_
    show Steps _ _ _ (T3.setTop (mkF m 10 #[rv u0, iv p1, .unset] [(.int ((16 : Int32) >>> ((0 : Int32) &&& 31)))])) _
    rw [(by decide : ((16 : Int32) >>> ((0 : Int32) &&& 31)) = (16 : Int32))]
    refine XS.istoreN X3.here hx rfl (oD hby D13 6 rfl) rfl rfl ?_
    refine XS.iloadN X3.here hx rfl (oD hby D13 7 rfl) rfl ?_
    refine XS.iloadN X3.here hx rfl (oD hby D13 8 rfl) rfl ?_
    refine XS.isub X3.here hx rfl (oD hby D13 9 rfl) rfl ?_
    refine XS.ifNo X3.here hx rfl (oD hby D13 10 rfl) rfl ((if0 _ _).trans (tlt wg).2.2.2) ?_
    refine XS.aloadN X3.here hx rfl (oD hby D13 12 rfl) rfl rfl ?_
    refine XS.aloadN X3.here hx rfl (oD hby D13 13 rfl) rfl rfl ?_
    refine st4 _ ?_
    refine XS.aloadN X4.here hx rfl (oD hby D13 15 rfl) rfl rfl ?_
    refine XS.iloadN X4.here hx rfl (oD hby D13 16 rfl) rfl ?_
    refine st5 _ ?_
    refine XS.aloadN X5.here hx rfl (oD hby D13 18 rfl) rfl rfl ?_
    refine st6 _ ?_
    refine XS.ishl X6.here hx rfl (oD hby D13 20 rfl) rfl ?_
    show Steps _ _ _ (T6.setTop (mkF m 32 #[rv u0, iv p1, iv (16 : Int32)] [(.int ((34 : Int32) <<< ((0 : Int32) &&& 31))), (.ref bv), (.ref u0)])) _
    rw [(by decide : ((34 : Int32) <<< ((0 : Int32) &&& 31)) = (34 : Int32))]
    refine st7 _ ?_
    refine st15 _ ?_
    show Steps _ _ _ (T15.setTop (mkF m 38 #[rv u0, iv p1, iv (16 : Int32)] [])) _
    exact X15.returnOut hx Bd.returns (oD hby D13 11 rfl) hr
  · show Q_rmE1 Z u0 p1 bv kb bs cnt xl h0 n0 _ T15.heap _
    rw [e15]
    exact ⟨yv_7, ky_7, ys_7, rfl, N16, K17, zyv_7, f18, f15_, f19, f20, f21, f22, f10⟩

theorem ef_rmIF (m : MethodId) (x0 : Addr) (x1 : Addr) : entryFrame m #[(.ref x0), (.ref x1)] 2 = mkF m 0 #[rv x0, rv x1] [] := by first | (simp [entryFrame, mkF, argsToLocals, Value.category]; done) | rfl
theorem rmIF (l : Launch) (Z : State) (a0 : Array Value) (hw : own_W a0 Z) (ws : List Jvm.Cond) (u0 : Addr) (u1 : Addr) (zC : Int32) (h0 : Heap) (n0 : Nat) (Z0 : n0 ≤ h0.size) (P_E_u0 : Exa Z h0 u0 "java/lang/StringBuilder") (P_F_u0_AbstractStringBuilder_coder : Fld Z h0 u0 "java/lang/AbstractStringBuilder" "coder" "B" (.int (0 : Int32))) (P_E_u1 : Exa Z h0 u1 "java/lang/String") (P_F_u1_String_coder : Fld Z h0 u1 "java/lang/String" "coder" "B" (.int (0 : Int32))) (P_S_String_COMPACT_STRINGS : Sta Z h0 "java/lang/String" "COMPACT_STRINGS" "Z" (.int zC)) (hz : ¬ (zC = (0 : Int32))) :
    own_MF l own_y22 (Jvm.Cond.code own_y22 jdk_68_method_71_code 2 none) ws ({ frames := 1, cells := 0, slots := 0, locals := 13 } : Room) #[(.ref u0), (.ref u1)] Z h0 (own_QP none h0 n0) := by
  refine own_enter (n0 := n0) (plainFor_of_name pn_8) (C := "java/lang/AbstractStringBuilder") rfl (fun m => ef_rmIF m u0 u1) fun p e s m below meth c s₁ Bd hx hby hml hown hnm hZ hh X0 e0 N0 pre0 => ?_
  obtain ⟨T1, X1, e1, st1⟩ := getS2 X0 hx hZ hown (host := "") (Or.inl (oG hw 68 rfl)) Via.refl e0 P_S_String_COMPACT_STRINGS (g := (mkF m 0 #[rv u0, rv u1] [])) rfl (oD hby D15 0 rfl)
  obtain ⟨T2, X2, e2, st2⟩ := getF X1 hx hZ hown (host := "") (Or.inl (oG hw 71 rfl)) Via.refl e1 P_F_u0_AbstractStringBuilder_coder (g := (mkF m 7 #[rv u0, rv u1] [(.ref u0)])) rfl rfl (oD hby D15 3 rfl)
  obtain ⟨_, T3, L3, X3, hQ3, st3⟩ := own_cV X2 hx hown hZ (oG hw 111 rfl) (oG hw 89 rfl) (oG hw 91 rfl) (oG hw 90 rfl) (oG hw 3 rfl) (oG hw 92 rfl) (by decide) (rmCo l Z a0 hw [] u1 zC h0 n0 Z0 P_F_u1_String_coder P_S_String_COMPACT_STRINGS hz) (W := 1) (by decide) (by decide) P_E_u1 (g := (mkF m 11 #[rv u0, rv u1] [(.ref u1), (.int (0 : Int32))])) rfl (by rw [hml]; rfl) (argsL := []) (rest := [(.int (0 : Int32))]) (lenOf pd0 rfl) rfl (own_ww rfl) (oD hby D15 5 rfl) e2 rfl (by decide) (by decide)
  obtain ⟨rfl, N3q, e3⟩ := hQ3
  have N3 := Fr.app N0 N3q
  obtain ⟨fs, hr, hrun, hended, hW, hsame⟩ := X3.leave (v := none) (fun _ => rfl)
  refine ⟨_, _, pre0 _ ?_, hrun, hended, _, _, rfl, ?_, ⟨_, rfl⟩, hW, hsame.mono (by decide) (by decide)⟩
  · refine st1 _ ?_
    refine XS.ifNo X1.here hx rfl (oD hby D15 1 rfl) rfl ((if0 _ _).trans (feq hz).1) ?_
    refine XS.aloadN X1.here hx rfl (oD hby D15 2 rfl) rfl rfl ?_
    refine st2 _ ?_
    refine XS.aloadN X2.here hx rfl (oD hby D15 4 rfl) rfl rfl ?_
    refine st3 _ ?_
    refine XS.icmpYes X3.here hx rfl (pc0 := 14) (pc' := 21) rfl (oD hby D15 6 rfl) rfl (teq (by decide : (0 : Int32) = (0 : Int32))).1 (by decide) (by decide) ?_
    show Steps _ _ _ (T3.setTop (mkF m 21 #[rv u0, rv u1] [])) _
    exact X3.returnOut hx Bd.returns (oD hby D15 7 rfl) hr
  · show own_QP none h0 n0 _ T3.heap _
    rw [e3]
    exact ⟨rfl, N3, rfl⟩

theorem ef_rmGB (m : MethodId) (x0 : Addr) (x1 : Addr) (x2 : Int32) (x3 : Int32) : entryFrame m #[(.ref x0), (.ref x1), (.int x2), (.int x3)] 4 = mkF m 0 #[rv x0, rv x1, iv x2, iv x3] [] := by first | (simp [entryFrame, mkF, argsToLocals, Value.category]; done) | rfl
def Q_rmGB (Z : State) (u0 : Addr) (u1 : Addr) (p2 : Int32) (tv : Addr) (kt : ClassId) (z : Int32) (vs : List Value) (kb : ClassId) (cap : Int32) (bs : List Value) (xl : List Int32) (xm : List Int32) (zC : Int32) (h0 : Heap) (n0 : Nat) (v : Option Value) (h : Heap) (L : List Loc) : Prop := ∃ (b2 : List Value), (v = none ∧ Fr n0 L ∧ Keep h0 h [u1] ∧ Arv Z h u1 kb .byte cap b2 (.int 0) ∧ (own_has b2 (xl ++ xm) ∧ own_cap cap b2))
theorem rmGB (l : Launch) (Z : State) (a0 : Array Value) (hw : own_W a0 Z) (ws : List Jvm.Cond) (u0 : Addr) (u1 : Addr) (p2 : Int32) (tv : Addr) (kt : ClassId) (z : Int32) (vs : List Value) (kb : ClassId) (cap : Int32) (bs : List Value) (xl : List Int32) (xm : List Int32) (zC : Int32) (h0 : Heap) (n0 : Nat) (Z0 : n0 ≤ h0.size) (P_E_u0 : Exa Z h0 u0 "java/lang/String") (P_F_u0_String_value : Fld Z h0 u0 "java/lang/String" "value" "[B" (.ref tv)) (P_F_u0_String_coder : Fld Z h0 u0 "java/lang/String" "coder" "B" (.int (0 : Int32))) (P_G_tv : Arv Z h0 tv kt .byte z vs (.int 0)) (P_G_u1 : Arv Z h0 u1 kb .byte cap bs (.int 0)) (neA : tv ≠ u1) (P_S_String_COMPACT_STRINGS : Sta Z h0 "java/lang/String" "COMPACT_STRINGS" "Z" (.int zC)) (hz : ¬ (zC = (0 : Int32))) (wl : own_len xl p2) (wm : own_len xm z) (wf : own_fit xl xm cap) (wc : own_cap cap bs) (wh : own_has bs xl) (wM : own_has vs xm) (g_u1 : n0 ≤ u1) :
    own_MF l own_y23 (Jvm.Cond.code own_y23 jdk_42_method_147_code 4 none) ws ({ frames := 1, cells := 0, slots := 0, locals := 18 } : Room) #[(.ref u0), (.ref u1), (.int p2), (.int (0 : Int32))] Z h0 (Q_rmGB Z u0 u1 p2 tv kt z vs kb cap bs xl xm zC h0 n0) := by
  refine own_enter (n0 := n0) (plainFor_of_name pn_12) (C := "java/lang/String") rfl (fun m => ef_rmGB m u0 u1 p2 (0 : Int32)) fun p e s m below meth c s₁ Bd hx hby hml hown hnm hZ hh X0 e0 N0 pre0 => ?_
  obtain ⟨_, T1, L1, X1, hQ1, st1⟩ := own_cV X0 hx hown hZ (oG hw 88 rfl) (oG hw 89 rfl) (oG hw 91 rfl) (oG hw 90 rfl) (oG hw 3 rfl) (oG hw 92 rfl) (by decide) (rmCo l Z a0 hw [] u0 zC h0 n0 Z0 P_F_u0_String_coder P_S_String_COMPACT_STRINGS hz) (W := 0) (by decide) (by decide) P_E_u0 (g := (mkF m 1 #[rv u0, rv u1, iv p2, iv (0 : Int32)] [(.ref u0)])) rfl (by rw [hml]; rfl) (argsL := []) (rest := []) (lenOf pd0 rfl) rfl (own_ww rfl) (oD hby D16 1 rfl) e0 rfl (by decide) (by decide)
  obtain ⟨rfl, N1q, e1⟩ := hQ1
  have N1 := Fr.app N0 N1q
  obtain ⟨T2, X2, e2, st2⟩ := getF X1 hx hZ hown (host := "") (Or.inl (oG hw 20 rfl)) Via.refl e1 P_F_u0_String_value (g := (mkF m 9 #[rv u0, rv u1, iv p2, iv (0 : Int32)] [(.ref u0)])) rfl rfl (oD hby D16 5 rfl)
  obtain ⟨T3, X3, e3, st3⟩ := getF X2 hx hZ hown (host := "") (Or.inl (oG hw 20 rfl)) Via.refl e2 P_F_u0_String_value (g := (mkF m 18 #[rv u0, rv u1, iv p2, iv (0 : Int32)] [(.ref u0), (.int p2), (.ref u1), (.int (0 : Int32)), (.ref tv)])) rfl rfl (oD hby D16 12 rfl)
  obtain ⟨cl4, Ar4, qq4, S4, N4_, H4, G4⟩ := id P_G_tv
  obtain ⟨T5, h5, L5, X5, e5, N5, K5, V5_, st5⟩ := cpA X3 hx hZ hown (oG hw 117 rfl) (oG hw 120 rfl) (oG hw 118 rfl) (oG hw 119 rfl) e3 P_G_tv P_G_u1  (Or.inl ⟨rfl, rfl⟩) (sp := (0 : Int32)) (dp := p2) (nn := z) (by decide) (own_b0 wl) (own_b0 wm) (own_b4 z) (own_g4 wl wm wf) rfl (own_g5 wl wm wf wc) N1 g_u1 (g := (mkF m 22 #[rv u0, rv u1, iv p2, iv (0 : Int32)] [(.int z), (.int p2), (.ref u1), (.int (0 : Int32)), (.ref tv)])) rfl (by rw [hml]; rfl) rfl (oD hby D16 14 rfl) (by decide) (W := 0) (by show 2 * 0 + _ ≤ _; exact Nat.le_of_eq rfl) (by decide)
  have KK5 : Keep h0 h5 [u1] := Keep.trans (Keep.refl h0 [u1]) K5 (allS (Or.inl (List.mem_of_getElem? (i := 0) rfl)) all0)
  obtain ⟨vx5, V5, hvx5⟩ : ∃ vx, Arv Z h5 u1 kb .byte cap vx (.int 0) ∧ vx = (bs).take (p2).toNatClampNeg ++ (List.range (z).toNatClampNeg).map (fun i => (vs).getD (((0 : Int32)).toNatClampNeg + i) (.int 0)) ++ (bs).drop ((p2).toNatClampNeg + (z).toNatClampNeg) := ⟨_, V5_, rfl⟩
  obtain ⟨fs, hr, hrun, hended, hW, hsame⟩ := X5.leave (v := none) (fun _ => rfl)
  refine ⟨_, _, pre0 _ ?_, hrun, hended, _, _, rfl, ?_, ⟨_, rfl⟩, hW, hsame.mono (by decide) (by decide)⟩
  · refine XS.aloadN X0.here hx rfl (oD hby D16 0 rfl) rfl rfl ?_
    refine st1 _ ?_
    refine XS.iloadN X1.here hx rfl (oD hby D16 2 rfl) rfl ?_
    refine XS.icmpNo X1.here hx rfl (oD hby D16 3 rfl) rfl (teq (by decide : (0 : Int32) = (0 : Int32))).2 ?_
    refine XS.aloadN X1.here hx rfl (oD hby D16 4 rfl) rfl rfl ?_
    refine st2 _ ?_
    refine XS.iconst X2.here hx rfl (oD hby D16 6 rfl) ?_
    refine XS.aloadN X2.here hx rfl (oD hby D16 7 rfl) rfl rfl ?_
    refine XS.iloadN X2.here hx rfl (oD hby D16 8 rfl) rfl ?_
    refine XS.iloadN X2.here hx rfl (oD hby D16 9 rfl) rfl ?_
    refine XS.ishl X2.here hx rfl (oD hby D16 10 rfl) rfl ?_
    show Steps _ _ _ (T2.setTop (mkF m 17 #[rv u0, rv u1, iv p2, iv (0 : Int32)] [(.int (p2 <<< ((0 : Int32) &&& 31))), (.ref u1), (.int (0 : Int32)), (.ref tv)])) _
    rw [own_shl0 p2]
    refine XS.aloadN X2.here hx rfl (oD hby D16 11 rfl) rfl rfl ?_
    refine st3 _ ?_
    refine X3.arraylength hx (by rw [e3]; exact Ar4.1) (State.isArrayOf_alike hZ.alike Ar4.2.1) (g := (mkF m 21 #[rv u0, rv u1, iv p2, iv (0 : Int32)] [(.ref tv), (.int p2), (.ref u1), (.int (0 : Int32)), (.ref tv)])) rfl rfl (oD hby D16 13 rfl) _ ?_
    rw [len_of S4 N4_]
    refine st5 _ ?_
    refine XS.goto X5.here hx rfl (pc0 := 25) (pc' := 43) rfl (oD hby D16 15 rfl) (by decide) (by decide) ?_
    show Steps _ _ _ (T5.setTop (mkF m 43 #[rv u0, rv u1, iv p2, iv (0 : Int32)] [])) _
    exact X5.returnOut hx Bd.returns (oD hby D16 16 rfl) hr
  · show Q_rmGB Z u0 u1 p2 tv kt z vs kb cap bs xl xm zC h0 n0 _ T5.heap _
    rw [e5]
    exact ⟨vx5, rfl, N5, KK5, V5, (own_g6 wl wm wf wc wh wM hvx5)⟩

theorem ef_rmPS (m : MethodId) (x0 : Addr) (x1 : Int32) (x2 : Addr) : entryFrame m #[(.ref x0), (.int x1), (.ref x2)] 3 = mkF m 0 #[rv x0, iv x1, rv x2] [] := by first | (simp [entryFrame, mkF, argsToLocals, Value.category]; done) | rfl
def Q_rmPS (Z : State) (u0 : Addr) (p1 : Int32) (u2 : Addr) (tv : Addr) (kt : ClassId) (z : Int32) (vs : List Value) (bv : Addr) (kb : ClassId) (cap : Int32) (bs : List Value) (cnt : Int32) (xl : List Int32) (xm : List Int32) (zC : Int32) (h0 : Heap) (n0 : Nat) (v : Option Value) (h : Heap) (L : List Loc) : Prop := ∃ (b2 : List Value), (v = none ∧ Fr n0 L ∧ Keep h0 h [bv] ∧ Arv Z h bv kb .byte cap b2 (.int 0) ∧ (own_has b2 (xl ++ xm) ∧ own_cap cap b2))
theorem rmPS (l : Launch) (Z : State) (a0 : Array Value) (hw : own_W a0 Z) (ws : List Jvm.Cond) (u0 : Addr) (p1 : Int32) (u2 : Addr) (tv : Addr) (kt : ClassId) (z : Int32) (vs : List Value) (bv : Addr) (kb : ClassId) (cap : Int32) (bs : List Value) (cnt : Int32) (xl : List Int32) (xm : List Int32) (zC : Int32) (h0 : Heap) (n0 : Nat) (Z0 : n0 ≤ h0.size) (P_E_u0 : Exa Z h0 u0 "java/lang/StringBuilder") (P_F_u0_AbstractStringBuilder_value : Fld Z h0 u0 "java/lang/AbstractStringBuilder" "value" "[B" (.ref bv)) (P_F_u0_AbstractStringBuilder_coder : Fld Z h0 u0 "java/lang/AbstractStringBuilder" "coder" "B" (.int (0 : Int32))) (P_F_u0_AbstractStringBuilder_count : Fld Z h0 u0 "java/lang/AbstractStringBuilder" "count" "I" (.int cnt)) (P_E_bv : Exa Z h0 bv "[B") (P_G_bv : Arv Z h0 bv kb .byte cap bs (.int 0)) (P_E_u2 : Exa Z h0 u2 "java/lang/String") (P_F_u2_String_value : Fld Z h0 u2 "java/lang/String" "value" "[B" (.ref tv)) (P_F_u2_String_coder : Fld Z h0 u2 "java/lang/String" "coder" "B" (.int (0 : Int32))) (P_G_tv : Arv Z h0 tv kt .byte z vs (.int 0)) (neA : tv ≠ bv) (P_S_String_COMPACT_STRINGS : Sta Z h0 "java/lang/String" "COMPACT_STRINGS" "Z" (.int zC)) (hz : ¬ (zC = (0 : Int32))) (wl : own_len xl p1) (wm : own_len xm z) (wf : own_fit xl xm cap) (wc : own_cap cap bs) (wh : own_has bs xl) (wM : own_has vs xm) (g_bv : n0 ≤ bv) :
    own_MF l own_y24 (Jvm.Cond.code own_y24 jdk_68_method_73_code 3 none) ws ({ frames := 2, cells := 0, slots := 0, locals := 33 } : Room) #[(.ref u0), (.int p1), (.ref u2)] Z h0 (Q_rmPS Z u0 p1 u2 tv kt z vs bv kb cap bs cnt xl xm zC h0 n0) := by
  refine own_enter (n0 := n0) (plainFor_of_name pn_8) (C := "java/lang/AbstractStringBuilder") rfl (fun m => ef_rmPS m u0 p1 u2) fun p e s m below meth c s₁ Bd hx hby hml hown hnm hZ hh X0 e0 N0 pre0 => ?_
  obtain ⟨_, T1, L1, X1, hQ1, st1⟩ := own_cV X0 hx hown hZ (oG hw 106 rfl) (own_decl (oG hw 107 rfl) (oG hw 110 rfl)) (oG hw 109 rfl) (oG hw 107 rfl) (oG hw 65 rfl) (oG hw 110 rfl) (by decide) (rmIF l Z a0 hw [] u0 u2 zC h0 n0 Z0 P_E_u0 P_F_u0_AbstractStringBuilder_coder P_E_u2 P_F_u2_String_coder P_S_String_COMPACT_STRINGS hz) (W := 0) (by decide) (by decide) P_E_u0 (g := (mkF m 2 #[rv u0, iv p1, rv u2] [(.ref u2), (.ref u0)])) rfl (by rw [hml]; rfl) (argsL := [(.ref u2)]) (rest := []) (lenOf pd12 rfl) rfl (own_ww rfl) (oD hby D14 2 rfl) e0 rfl (by decide) (by decide)
  obtain ⟨rfl, N1q, e1⟩ := hQ1
  have N1 := Fr.app N0 N1q
  obtain ⟨T2, X2, e2, st2⟩ := getF X1 hx hZ hown (host := "") (Or.inl (oG hw 69 rfl)) Via.refl e1 P_F_u0_AbstractStringBuilder_value (g := (mkF m 7 #[rv u0, iv p1, rv u2] [(.ref u0), (.ref u2)])) rfl rfl (oD hby D14 5 rfl)
  obtain ⟨T3, X3, e3, st3⟩ := getF X2 hx hZ hown (host := "") (Or.inl (oG hw 71 rfl)) Via.refl e2 P_F_u0_AbstractStringBuilder_coder (g := (mkF m 12 #[rv u0, iv p1, rv u2] [(.ref u0), (.int p1), (.ref bv), (.ref u2)])) rfl rfl (oD hby D14 8 rfl)
  obtain ⟨_, T4, L4, X4, hQ4, st4⟩ := own_cV X3 hx hown hZ (oG hw 112 rfl) (oG hw 113 rfl) (oG hw 115 rfl) (oG hw 114 rfl) (oG hw 3 rfl) (oG hw 116 rfl) (by decide) (rmGB l Z a0 hw [] u2 bv p1 tv kt z vs kb cap bs xl xm zC h0 n0 Z0 P_E_u2 P_F_u2_String_value P_F_u2_String_coder P_G_tv P_G_bv neA P_S_String_COMPACT_STRINGS hz wl wm wf wc wh wM g_bv) (W := 0) (by decide) (by decide) P_E_u2 (g := (mkF m 15 #[rv u0, iv p1, rv u2] [(.int (0 : Int32)), (.int p1), (.ref bv), (.ref u2)])) rfl (by rw [hml]; rfl) (argsL := [(.ref bv), (.int p1), (.int (0 : Int32))]) (rest := []) (lenOf pd13 rfl) rfl (own_ww rfl) (oD hby D14 9 rfl) e3 rfl (by decide) (by decide)
  obtain ⟨b2_4, rfl, N4q, K4, f5, f6⟩ := hQ4
  have KK4 : Keep h0 T4.heap [bv] := Keep.trans (Keep.refl h0 [bv]) K4 (allS (Or.inl (List.mem_of_getElem? (i := 0) rfl)) all0)
  have N4 := Fr.app N1 N4q
  obtain ⟨fs, hr, hrun, hended, hW, hsame⟩ := X4.leave (v := none) (fun _ => rfl)
  refine ⟨_, _, pre0 _ ?_, hrun, hended, _, _, rfl, ?_, ⟨_, rfl⟩, hW, hsame.mono (by decide) (by decide)⟩
  · refine XS.aloadN X0.here hx rfl (oD hby D14 0 rfl) rfl rfl ?_
    refine XS.aloadN X0.here hx rfl (oD hby D14 1 rfl) rfl rfl ?_
    refine st1 _ ?_
    refine XS.aloadN X1.here hx rfl (oD hby D14 3 rfl) rfl rfl ?_
    refine XS.aloadN X1.here hx rfl (oD hby D14 4 rfl) rfl rfl ?_
    refine st2 _ ?_
    refine XS.iloadN X2.here hx rfl (oD hby D14 6 rfl) rfl ?_
    refine XS.aloadN X2.here hx rfl (oD hby D14 7 rfl) rfl rfl ?_
    refine st3 _ ?_
    refine st4 _ ?_
    show Steps _ _ _ (T4.setTop (mkF m 18 #[rv u0, iv p1, rv u2] [])) _
    exact X4.returnOut hx Bd.returns (oD hby D14 10 rfl) hr
  · show Q_rmPS Z u0 p1 u2 tv kt z vs bv kb cap bs cnt xl xm zC h0 n0 _ T4.heap _
    exact ⟨b2_4, rfl, N4, KK4, f5, f6⟩

theorem ef_rmAp (m : MethodId) (x0 : Addr) (x1 : Addr) : entryFrame m #[(.ref x0), (.ref x1)] 3 = mkF m 0 #[rv x0, rv x1, .unset] [] := by first | (simp [entryFrame, mkF, argsToLocals, Value.category]; done) | rfl
def Q_rmAp (Z : State) (u0 : Addr) (u1 : Addr) (tv : Addr) (kt : ClassId) (z : Int32) (vs : List Value) (bv : Addr) (kb : ClassId) (cap : Int32) (bs : List Value) (cnt : Int32) (xl : List Int32) (xm : List Int32) (zC : Int32) (h0 : Heap) (n0 : Nat) (v : Option Value) (h : Heap) (L : List Loc) : Prop := ∃ (t2 : Jvm.Addr), ∃ (k2 : ClassId), ∃ (cap2 : Int32), ∃ (b2 : List Value), ∃ (cn2 : Int32), (v = (some (.ref u0)) ∧ Fr n0 L ∧ Keep h0 h [u0, bv] ∧ Exa Z h u0 "java/lang/StringBuilder" ∧ Fld Z h u0 "java/lang/AbstractStringBuilder" "value" "[B" (.ref t2) ∧ Fld Z h u0 "java/lang/AbstractStringBuilder" "coder" "B" (.int (0 : Int32)) ∧ Fld Z h u0 "java/lang/AbstractStringBuilder" "count" "I" (.int cn2) ∧ Exa Z h t2 "[B" ∧ Arv Z h t2 k2 .byte cap2 b2 (.int 0) ∧ (own_has b2 (xl ++ xm) ∧ own_cap cap2 b2) ∧ (own_len (xl ++ xm) cn2 ∧ own_in (xl ++ xm) cap2) ∧ ((t2 = bv ∨ h0.size ≤ t2)))
theorem rmAp (l : Launch) (Z : State) (a0 : Array Value) (hw : own_W a0 Z) (ws : List Jvm.Cond) (u0 : Addr) (u1 : Addr) (tv : Addr) (kt : ClassId) (z : Int32) (vs : List Value) (bv : Addr) (kb : ClassId) (cap : Int32) (bs : List Value) (cnt : Int32) (xl : List Int32) (xm : List Int32) (zC : Int32) (h0 : Heap) (n0 : Nat) (Z0 : n0 ≤ h0.size) (P_E_u0 : Exa Z h0 u0 "java/lang/StringBuilder") (P_F_u0_AbstractStringBuilder_value : Fld Z h0 u0 "java/lang/AbstractStringBuilder" "value" "[B" (.ref bv)) (P_F_u0_AbstractStringBuilder_coder : Fld Z h0 u0 "java/lang/AbstractStringBuilder" "coder" "B" (.int (0 : Int32))) (P_F_u0_AbstractStringBuilder_count : Fld Z h0 u0 "java/lang/AbstractStringBuilder" "count" "I" (.int cnt)) (P_E_bv : Exa Z h0 bv "[B") (P_G_bv : Arv Z h0 bv kb .byte cap bs (.int 0)) (P_E_u1 : Exa Z h0 u1 "java/lang/String") (P_F_u1_String_value : Fld Z h0 u1 "java/lang/String" "value" "[B" (.ref tv)) (P_F_u1_String_coder : Fld Z h0 u1 "java/lang/String" "coder" "B" (.int (0 : Int32))) (P_G_tv : Arv Z h0 tv kt .byte z vs (.int 0)) (neB : tv ≠ u0) (neA : tv ≠ bv) (neC : u1 ≠ u0) (neD : u1 ≠ bv) (neE : bv ≠ u0) (P_S_String_COMPACT_STRINGS : Sta Z h0 "java/lang/String" "COMPACT_STRINGS" "Z" (.int zC)) (hz : ¬ (zC = (0 : Int32))) (wi : own_in xl cap) (wl : own_len xl cnt) (wm : own_len xm z) (w34 : xl.length + xm.length ≤ 34) (wc : own_cap cap bs) (wh : own_has bs xl) (wM : own_has vs xm) (g_u0 : n0 ≤ u0) (g_bv : n0 ≤ bv) :
    own_MF l own_y25 (Jvm.Cond.code own_y25 jdk_68_method_22_code 3 (some (.object "java/lang/AbstractStringBuilder"))) ws ({ frames := 4, cells := 1, slots := 34, locals := 62 } : Room) #[(.ref u0), (.ref u1)] Z h0 (Q_rmAp Z u0 u1 tv kt z vs bv kb cap bs cnt xl xm zC h0 n0) := by
  refine own_enter (n0 := n0) (plainFor_of_name pn_8) (C := "java/lang/AbstractStringBuilder") rfl (fun m => ef_rmAp m u0 u1) fun p e s m below meth c s₁ Bd hx hby hml hown hnm hZ hh X0 e0 N0 pre0 => ?_
  obtain ⟨_, T1, L1, X1, hQ1, st1⟩ := own_cV X0 hx hown hZ (oG hw 83 rfl) (oG hw 84 rfl) (oG hw 86 rfl) (oG hw 85 rfl) (oG hw 3 rfl) (oG hw 87 rfl) (by decide) (rmLe l Z a0 hw [] u1 tv kt z vs zC h0 n0 Z0 P_E_u1 P_F_u1_String_value P_F_u1_String_coder P_G_tv P_S_String_COMPACT_STRINGS hz) (W := 0) (by decide) (by decide) P_E_u1 (g := (mkF m 10 #[rv u0, rv u1, .unset] [(.ref u1)])) rfl (by rw [hml]; rfl) (argsL := []) (rest := []) (lenOf pd8 rfl) rfl (own_ww rfl) (oD hby D10 3 rfl) e0 rfl (by decide) (by decide)
  obtain ⟨rfl, N1q, e1⟩ := hQ1
  have N1 := Fr.app N0 N1q
  obtain ⟨T2, X2, e2, st2⟩ := getF X1 hx hZ hown (host := "") (Or.inl (oG hw 94 rfl)) Via.refl e1 P_F_u0_AbstractStringBuilder_count (g := (mkF m 16 #[rv u0, rv u1, iv z] [(.ref u0), (.ref u0)])) rfl rfl (oD hby D10 7 rfl)
  have pre4 : own_V p e below _ T2 (mkF m 21 #[rv u0, rv u1, iv z] [(.int (cnt + z)), (.ref u0)]) := fun t kt => pre0 t (by
   refine XS.aloadN X0.here hx rfl (oD hby D10 0 rfl) rfl rfl ?_
   refine XS.ifnonnullYes X0.here hx rfl (pc0 := 1) (pc' := 9) rfl (oD hby D10 1 rfl) rfl (by decide) (by decide) ?_
   refine XS.aloadN X0.here hx rfl (oD hby D10 2 rfl) rfl rfl ?_
   refine st1 _ ?_
   refine XS.istoreN X1.here hx rfl (oD hby D10 4 rfl) rfl rfl ?_
   refine XS.aloadN X1.here hx rfl (oD hby D10 5 rfl) rfl rfl ?_
   refine XS.aloadN X1.here hx rfl (oD hby D10 6 rfl) rfl rfl ?_
   refine st2 _ ?_
   refine XS.iloadN X2.here hx rfl (oD hby D10 8 rfl) rfl ?_
   refine XS.iadd X2.here hx rfl (oD hby D10 9 rfl) rfl ?_
   exact kt)
  by_cases hc21_3 : (0 : Int32) < ((cnt + z) - cap)
  · obtain ⟨e16, h34b⟩ := own_grow wl wm w34 wc hc21_3
    have G16 : Arv Z h0 bv kb .byte (16 : Int32) bs (.int 0) := by rw [← e16]; exact P_G_bv
    have g16 : (0 : Int32) < ((cnt + z) - (16 : Int32)) := by rw [← e16]; exact hc21_3
    have wi16 : own_in xl (16 : Int32) := by rw [← e16]; exact wi
    obtain ⟨_, T5, L5, X5, hQ5, st5⟩ := own_cV X2 hx hown hZ (oG hw 96 rfl) (own_decl (oG hw 97 rfl) (oG hw 100 rfl)) (oG hw 99 rfl) (oG hw 97 rfl) (oG hw 65 rfl) (oG hw 100 rfl) (by decide) (rmE1 l Z a0 hw [] u0 (cnt + z) bv kb bs cnt xl h0 n0 Z0 P_E_u0 P_F_u0_AbstractStringBuilder_value P_F_u0_AbstractStringBuilder_coder P_F_u0_AbstractStringBuilder_count P_E_bv G16 g16 h34b wh (own_i16 wi16) g_u0) (W := 0) (by decide) (by decide) P_E_u0 (g := (mkF m 21 #[rv u0, rv u1, iv z] [(.int (cnt + z)), (.ref u0)])) rfl (by rw [hml]; rfl) (argsL := [(.int (cnt + z))]) (rest := []) (lenOf pd7 rfl) rfl (own_ww rfl) (oD hby D10 10 rfl) e2 rfl (by decide) (by decide)
    obtain ⟨t1_5, k1_5, b1_5, rfl, N5q, K5, sx5_0, f6, f7, f8, f9, f10, f11, f12⟩ := hQ5
    have ot1_5 : n0 ≤ t1_5 := Nat.le_trans Z0 sx5_0
    have zt1_5 : h0.size ≤ t1_5 := Nat.le_trans (Keep.refl h0 [u0, bv]).1 sx5_0
    have ne13 : u0 ≠ t1_5 := Nat.ne_of_lt (Nat.lt_of_lt_of_le P_E_u0.lt sx5_0)
    have ne14 : bv ≠ t1_5 := Nat.ne_of_lt (Nat.lt_of_lt_of_le P_E_bv.lt sx5_0)
    have ne15 : u1 ≠ t1_5 := Nat.ne_of_lt (Nat.lt_of_lt_of_le P_E_u1.lt sx5_0)
    have ne16 : tv ≠ t1_5 := Nat.ne_of_lt (Nat.lt_of_lt_of_le P_G_tv.lt sx5_0)
    have KK5 : Keep h0 T5.heap [u0, bv] := Keep.trans (Keep.refl h0 [u0, bv]) K5 (allS (Or.inl (List.mem_of_getElem? (i := 0) rfl)) all0)
    have N5 := Fr.app N1 N5q
    obtain ⟨T17, X17, e17, st17⟩ := getF X5 hx hZ hown (host := "") (Or.inl (oG hw 94 rfl)) Via.refl rfl f9 (g := (mkF m 26 #[rv u0, rv u1, iv z] [(.ref u0), (.ref u0)])) rfl rfl (oD hby D10 13 rfl)
    have f18 := (P_E_u1.keep K5)
    have f19 := (P_F_u1_String_value.keep K5 (ninS neC nin0))
    have f20 := (P_F_u1_String_coder.keep K5 (ninS neC nin0))
    have f21 := (P_G_tv.keep K5 (ninS neB nin0))
    have f22 := (own_staKeep P_S_String_COMPACT_STRINGS K5 (nsS P_E_u0.nostat ns0))
    have f23 := (Nat.le_trans Z0 K5.1)
    obtain ⟨_, T24, L24, X24, hQ24, st24⟩ := own_cV X17 hx hown hZ (oG hw 101 rfl) (own_decl (oG hw 102 rfl) (oG hw 105 rfl)) (oG hw 104 rfl) (oG hw 102 rfl) (oG hw 65 rfl) (oG hw 105 rfl) (by decide) (rmPS l Z a0 hw [] u0 cnt u1 tv kt z vs t1_5 k1_5 (34 : Int32) b1_5 cnt xl xm zC T5.heap n0 f23 f6 f7 f8 f9 f10 f11 f18 f19 f20 f21 ne16 f22 hz wl wm (own_fit34 w34) f12.2 f12.1 wM ot1_5) (W := 0) (by decide) (by decide) f6 (g := (mkF m 30 #[rv u0, rv u1, iv z] [(.ref u1), (.int cnt), (.ref u0)])) rfl (by rw [hml]; rfl) (argsL := [(.int cnt), (.ref u1)]) (rest := []) (lenOf pd14 rfl) rfl (own_ww rfl) (oD hby D10 15 rfl) e17 rfl (by decide) (by decide)
    have f25 := (P_E_bv.keep K5)
    obtain ⟨b2_24, rfl, N24q, K24, f26, f27⟩ := hQ24
    have KK24 : Keep h0 T24.heap [u0, bv] := Keep.trans KK5 K24 (allS (Or.inr zt1_5) all0)
    have N24 := Fr.app N5 N24q
    have f28 := (f9.keep K24 (ninS ne13 nin0))
    obtain ⟨T29, X29, e29, st29⟩ := getF X24 hx hZ hown (host := "") (Or.inl (oG hw 94 rfl)) Via.refl rfl f28 (g := (mkF m 35 #[rv u0, rv u1, iv z] [(.ref u0), (.ref u0)])) rfl rfl (oD hby D10 18 rfl)
    have f30 := (f6.keep K24)
    obtain ⟨T31, h31, X31, e31, W31, st31⟩ := putF X29 hx hZ hown (host := "") (Or.inl (oG hw 94 rfl)) Via.refl e29 f28 f30 (Or.inl (oG hw 95 rfl)) (oG hw 56 rfl) (ty := .int) (by decide) rfl rfl (g := (mkF m 40 #[rv u0, rv u1, iv z] [(.int (cnt + z)), (.ref u0)])) rfl rfl (oD hby D10 21 rfl)
    have f31_ : Fld Z h31 u0 "java/lang/AbstractStringBuilder" "count" "I" (.int (cnt + z)) := f28.same W31
    have N32 := Fr.snoc X31 N24 g_u0
    have K33 : Keep h0 h31 [u0, bv] := KK24.wr W31 (Or.inl (List.mem_of_getElem? (i := 0) rfl))
    obtain ⟨fs, hr, hrun, hended, hW, hsame⟩ := X31.leave (v := some (.ref u0)) (fun h => by rw [Bd.returns] at h; cases h)
    have f34 := (f30.wr W31)
    have f35 := ((f7.keep K24 (ninS ne13 nin0)).other W31 (Or.inr (slot_ne (Or.inl (oG hw 70 rfl)) (Or.inl (oG hw 95 rfl)) (by decide) (t := (.array .byte)) (t' := .int) (by decide) (by decide))))
    have f36 := ((f8.keep K24 (ninS ne13 nin0)).other W31 (Or.inr (slot_ne (Or.inl (oG hw 72 rfl)) (Or.inl (oG hw 95 rfl)) (by decide) (t := .byte) (t' := .int) (by decide) (by decide))))
    have f37 := ((f10.keep K24).wr W31)
    have f38 := (f26.other W31 (Ne.symm ne13))
    refine ⟨_, _, pre4 _ ?_, hrun, hended, _, _, rfl, ?_, ⟨_, rfl⟩, hW, hsame.mono (by decide) (by decide)⟩
    · refine st5 _ ?_
      refine XS.aloadN X5.here hx rfl (oD hby D10 11 rfl) rfl rfl ?_
      refine XS.aloadN X5.here hx rfl (oD hby D10 12 rfl) rfl rfl ?_
      refine st17 _ ?_
      refine XS.aloadN X17.here hx rfl (oD hby D10 14 rfl) rfl rfl ?_
      refine st24 _ ?_
      refine XS.aloadN X24.here hx rfl (oD hby D10 16 rfl) rfl rfl ?_
      refine XS.dup X24.here hx rfl (oD hby D10 17 rfl) rfl rfl ?_
      refine st29 _ ?_
      refine XS.iloadN X29.here hx rfl (oD hby D10 19 rfl) rfl ?_
      refine XS.iadd X29.here hx rfl (oD hby D10 20 rfl) rfl ?_
      refine st31 _ ?_
      refine XS.aloadN X31.here hx rfl (oD hby D10 22 rfl) rfl rfl ?_
      show Steps _ _ _ (T31.setTop (mkF m 44 #[rv u0, rv u1, iv z] [(.ref u0)])) _
      exact retOut X31 hx Bd.returns rfl (Or.inr (Or.inr (Or.inr (Or.inr ⟨rfl, rfl, rfl⟩)))) (oD hby D10 23 rfl) hr
    · show Q_rmAp Z u0 u1 tv kt z vs bv kb cap bs cnt xl xm zC h0 n0 _ T31.heap _
      rw [e31]
      exact ⟨t1_5, k1_5, (34 : Int32), b2_24, (cnt + z), rfl, N32, K33, f34, f35, f36, f31_, f37, f38, f27, ⟨own_lapp wl wm w34, own_fin (own_fit34 w34)⟩, (Or.inr zt1_5)⟩
  · obtain ⟨_, T39, L39, X39, hQ39, st39⟩ := own_cV X2 hx hown hZ (oG hw 96 rfl) (own_decl (oG hw 97 rfl) (oG hw 100 rfl)) (oG hw 99 rfl) (oG hw 97 rfl) (oG hw 65 rfl) (oG hw 100 rfl) (by decide) (rmE0 l Z a0 hw [] u0 (cnt + z) bv kb cap bs cnt h0 n0 Z0 P_E_u0 P_F_u0_AbstractStringBuilder_value P_F_u0_AbstractStringBuilder_coder P_F_u0_AbstractStringBuilder_count P_E_bv P_G_bv hc21_3) (W := 0) (by decide) (by decide) P_E_u0 (g := (mkF m 21 #[rv u0, rv u1, iv z] [(.int (cnt + z)), (.ref u0)])) rfl (by rw [hml]; rfl) (argsL := [(.int (cnt + z))]) (rest := []) (lenOf pd7 rfl) rfl (own_ww rfl) (oD hby D10 10 rfl) e2 rfl (by decide) (by decide)
    obtain ⟨rfl, N39q, e39⟩ := hQ39
    have N39 := Fr.app N1 N39q
    obtain ⟨T40, X40, e40, st40⟩ := getF X39 hx hZ hown (host := "") (Or.inl (oG hw 94 rfl)) Via.refl e39 P_F_u0_AbstractStringBuilder_count (g := (mkF m 26 #[rv u0, rv u1, iv z] [(.ref u0), (.ref u0)])) rfl rfl (oD hby D10 13 rfl)
    obtain ⟨_, T41, L41, X41, hQ41, st41⟩ := own_cV X40 hx hown hZ (oG hw 101 rfl) (own_decl (oG hw 102 rfl) (oG hw 105 rfl)) (oG hw 104 rfl) (oG hw 102 rfl) (oG hw 65 rfl) (oG hw 105 rfl) (by decide) (rmPS l Z a0 hw [] u0 cnt u1 tv kt z vs bv kb cap bs cnt xl xm zC h0 n0 Z0 P_E_u0 P_F_u0_AbstractStringBuilder_value P_F_u0_AbstractStringBuilder_coder P_F_u0_AbstractStringBuilder_count P_E_bv P_G_bv P_E_u1 P_F_u1_String_value P_F_u1_String_coder P_G_tv neA P_S_String_COMPACT_STRINGS hz wl wm (own_nogrow wl wm w34 wc hc21_3) wc wh wM g_bv) (W := 0) (by decide) (by decide) P_E_u0 (g := (mkF m 30 #[rv u0, rv u1, iv z] [(.ref u1), (.int cnt), (.ref u0)])) rfl (by rw [hml]; rfl) (argsL := [(.int cnt), (.ref u1)]) (rest := []) (lenOf pd14 rfl) rfl (own_ww rfl) (oD hby D10 15 rfl) e40 rfl (by decide) (by decide)
    obtain ⟨b2_41, rfl, N41q, K41, f42, f43⟩ := hQ41
    have KK41 : Keep h0 T41.heap [u0, bv] := Keep.trans (Keep.refl h0 [u0, bv]) K41 (allS (Or.inl (List.mem_of_getElem? (i := 1) rfl)) all0)
    have N41 := Fr.app N39 N41q
    have f44 := (P_F_u0_AbstractStringBuilder_count.keep K41 (ninS (Ne.symm neE) nin0))
    obtain ⟨T45, X45, e45, st45⟩ := getF X41 hx hZ hown (host := "") (Or.inl (oG hw 94 rfl)) Via.refl rfl f44 (g := (mkF m 35 #[rv u0, rv u1, iv z] [(.ref u0), (.ref u0)])) rfl rfl (oD hby D10 18 rfl)
    have f46 := (P_E_u0.keep K41)
    obtain ⟨T47, h47, X47, e47, W47, st47⟩ := putF X45 hx hZ hown (host := "") (Or.inl (oG hw 94 rfl)) Via.refl e45 f44 f46 (Or.inl (oG hw 95 rfl)) (oG hw 56 rfl) (ty := .int) (by decide) rfl rfl (g := (mkF m 40 #[rv u0, rv u1, iv z] [(.int (cnt + z)), (.ref u0)])) rfl rfl (oD hby D10 21 rfl)
    have f47_ : Fld Z h47 u0 "java/lang/AbstractStringBuilder" "count" "I" (.int (cnt + z)) := f44.same W47
    have N48 := Fr.snoc X47 N41 g_u0
    have K49 : Keep h0 h47 [u0, bv] := KK41.wr W47 (Or.inl (List.mem_of_getElem? (i := 0) rfl))
    obtain ⟨fs, hr, hrun, hended, hW, hsame⟩ := X47.leave (v := some (.ref u0)) (fun h => by rw [Bd.returns] at h; cases h)
    have f50 := (f46.wr W47)
    have f51 := ((P_F_u0_AbstractStringBuilder_value.keep K41 (ninS (Ne.symm neE) nin0)).other W47 (Or.inr (slot_ne (Or.inl (oG hw 70 rfl)) (Or.inl (oG hw 95 rfl)) (by decide) (t := (.array .byte)) (t' := .int) (by decide) (by decide))))
    have f52 := ((P_F_u0_AbstractStringBuilder_coder.keep K41 (ninS (Ne.symm neE) nin0)).other W47 (Or.inr (slot_ne (Or.inl (oG hw 72 rfl)) (Or.inl (oG hw 95 rfl)) (by decide) (t := .byte) (t' := .int) (by decide) (by decide))))
    have f53 := ((P_E_bv.keep K41).wr W47)
    have f54 := (f42.other W47 neE)
    refine ⟨_, _, pre4 _ ?_, hrun, hended, _, _, rfl, ?_, ⟨_, rfl⟩, hW, hsame.mono (by decide) (by decide)⟩
    · refine st39 _ ?_
      refine XS.aloadN X39.here hx rfl (oD hby D10 11 rfl) rfl rfl ?_
      refine XS.aloadN X39.here hx rfl (oD hby D10 12 rfl) rfl rfl ?_
      refine st40 _ ?_
      show Steps _ _ _ (T40.setTop (mkF m 29 #[rv u0, rv u1, iv z] [(.int cnt), (.ref u0)])) _
      refine XS.aloadN X40.here hx rfl (oD hby D10 14 rfl) rfl rfl ?_
      refine st41 _ ?_
      refine XS.aloadN X41.here hx rfl (oD hby D10 16 rfl) rfl rfl ?_
      refine XS.dup X41.here hx rfl (oD hby D10 17 rfl) rfl rfl ?_
      refine st45 _ ?_
      refine XS.iloadN X45.here hx rfl (oD hby D10 19 rfl) rfl ?_
      refine XS.iadd X45.here hx rfl (oD hby D10 20 rfl) rfl ?_
      refine st47 _ ?_
      refine XS.aloadN X47.here hx rfl (oD hby D10 22 rfl) rfl rfl ?_
      show Steps _ _ _ (T47.setTop (mkF m 44 #[rv u0, rv u1, iv z] [(.ref u0)])) _
      exact retOut X47 hx Bd.returns rfl (Or.inr (Or.inr (Or.inr (Or.inr ⟨rfl, rfl, rfl⟩)))) (oD hby D10 23 rfl) hr
    · show Q_rmAp Z u0 u1 tv kt z vs bv kb cap bs cnt xl xm zC h0 n0 _ T47.heap _
      rw [e47]
      exact ⟨bv, kb, cap, b2_41, (cnt + z), rfl, N48, K49, f50, f51, f52, f47_, f53, f54, f43, ⟨own_lapp wl wm w34, own_fin (own_nogrow wl wm w34 wc hc21_3)⟩, (Or.inl rfl)⟩

theorem ef_rmBp (m : MethodId) (x0 : Addr) (x1 : Addr) : entryFrame m #[(.ref x0), (.ref x1)] 2 = mkF m 0 #[rv x0, rv x1] [] := by first | (simp [entryFrame, mkF, argsToLocals, Value.category]; done) | rfl
def Q_rmBp (Z : State) (u0 : Addr) (u1 : Addr) (tv : Addr) (kt : ClassId) (z : Int32) (vs : List Value) (bv : Addr) (kb : ClassId) (cap : Int32) (bs : List Value) (cnt : Int32) (xl : List Int32) (xm : List Int32) (zC : Int32) (h0 : Heap) (n0 : Nat) (v : Option Value) (h : Heap) (L : List Loc) : Prop := ∃ (t2 : Jvm.Addr), ∃ (k2 : ClassId), ∃ (cap2 : Int32), ∃ (b2 : List Value), ∃ (cn2 : Int32), (v = (some (.ref u0)) ∧ Fr n0 L ∧ Keep h0 h [u0, bv] ∧ Exa Z h u0 "java/lang/StringBuilder" ∧ Fld Z h u0 "java/lang/AbstractStringBuilder" "value" "[B" (.ref t2) ∧ Fld Z h u0 "java/lang/AbstractStringBuilder" "coder" "B" (.int (0 : Int32)) ∧ Fld Z h u0 "java/lang/AbstractStringBuilder" "count" "I" (.int cn2) ∧ Exa Z h t2 "[B" ∧ Arv Z h t2 k2 .byte cap2 b2 (.int 0) ∧ (own_has b2 (xl ++ xm) ∧ own_cap cap2 b2) ∧ (own_len (xl ++ xm) cn2 ∧ own_in (xl ++ xm) cap2) ∧ ((t2 = bv ∨ h0.size ≤ t2)))
theorem rmBp (l : Launch) (Z : State) (a0 : Array Value) (hw : own_W a0 Z) (ws : List Jvm.Cond) (u0 : Addr) (u1 : Addr) (tv : Addr) (kt : ClassId) (z : Int32) (vs : List Value) (bv : Addr) (kb : ClassId) (cap : Int32) (bs : List Value) (cnt : Int32) (xl : List Int32) (xm : List Int32) (zC : Int32) (h0 : Heap) (n0 : Nat) (Z0 : n0 ≤ h0.size) (P_E_u0 : Exa Z h0 u0 "java/lang/StringBuilder") (P_F_u0_AbstractStringBuilder_value : Fld Z h0 u0 "java/lang/AbstractStringBuilder" "value" "[B" (.ref bv)) (P_F_u0_AbstractStringBuilder_coder : Fld Z h0 u0 "java/lang/AbstractStringBuilder" "coder" "B" (.int (0 : Int32))) (P_F_u0_AbstractStringBuilder_count : Fld Z h0 u0 "java/lang/AbstractStringBuilder" "count" "I" (.int cnt)) (P_E_bv : Exa Z h0 bv "[B") (P_G_bv : Arv Z h0 bv kb .byte cap bs (.int 0)) (P_E_u1 : Exa Z h0 u1 "java/lang/String") (P_F_u1_String_value : Fld Z h0 u1 "java/lang/String" "value" "[B" (.ref tv)) (P_F_u1_String_coder : Fld Z h0 u1 "java/lang/String" "coder" "B" (.int (0 : Int32))) (P_G_tv : Arv Z h0 tv kt .byte z vs (.int 0)) (neB : tv ≠ u0) (neA : tv ≠ bv) (neC : u1 ≠ u0) (neD : u1 ≠ bv) (neE : bv ≠ u0) (P_S_String_COMPACT_STRINGS : Sta Z h0 "java/lang/String" "COMPACT_STRINGS" "Z" (.int zC)) (hz : ¬ (zC = (0 : Int32))) (wi : own_in xl cap) (wl : own_len xl cnt) (wm : own_len xm z) (w34 : xl.length + xm.length ≤ 34) (wc : own_cap cap bs) (wh : own_has bs xl) (wM : own_has vs xm) (g_u0 : n0 ≤ u0) (g_bv : n0 ≤ bv) :
    own_MF l own_y26 (Jvm.Cond.code own_y26 jdk_67_method_7_code 2 (some (.object "java/lang/StringBuilder"))) ws ({ frames := 5, cells := 1, slots := 34, locals := 76 } : Room) #[(.ref u0), (.ref u1)] Z h0 (Q_rmBp Z u0 u1 tv kt z vs bv kb cap bs cnt xl xm zC h0 n0) := by
  refine own_enter (n0 := n0) (plainFor_of_name pn_7) (C := "java/lang/StringBuilder") rfl (fun m => ef_rmBp m u0 u1) fun p e s m below meth c s₁ Bd hx hby hml hown hnm hZ hh X0 e0 N0 pre0 => ?_
  obtain ⟨_, _, ⟨T1, L1, k1, n1⟩, -, X1, ⟨Lc1, hQ1, l1, y1, z1⟩, st1⟩ := superBack X0 hx hZ (y := own_y25) hown (oG hw 78 rfl) (own_same (y' := own_y16) (C := "java/lang/StringBuilder") (oG hw 79 rfl) (oG hw 82 rfl) (oG hw 99 rfl) rfl (by decide)) (oG hw 79 rfl) (oG hw 80 rfl) (by decide) (backOf (W := 0) (rmAp l Z a0 hw [] u0 u1 tv kt z vs bv kb cap bs cnt xl xm zC h0 n0 Z0 P_E_u0 P_F_u0_AbstractStringBuilder_value P_F_u0_AbstractStringBuilder_coder P_F_u0_AbstractStringBuilder_count P_E_bv P_G_bv P_E_u1 P_F_u1_String_value P_F_u1_String_coder P_G_tv neB neA neC neD neE P_S_String_COMPACT_STRINGS hz wi wl wm w34 wc wh wM g_u0 g_bv) hZ (oG hw 82 rfl) (oG hw 65 rfl) (by decide) (by decide)) e0 (Ins.self P_E_u0) (g := (mkF m 2 #[rv u0, rv u1] [(.ref u1), (.ref u0)])) rfl (by rw [hml]; rfl) (oG hw 82 rfl) (argsL := [(.ref u1)]) (rest := []) (lenOf pd15 rfl) rfl (by show 2 * 0 + _ ≤ _; exact Nat.le_of_eq rfl) (oD hby D9 2 rfl) (fun _ _ => ⟨rfl, e0, (by decide : 0 + 1 ≤ _), (by decide : 0 + 34 ≤ _)⟩)
  dsimp only [Pt.U, Pt.locs, Pt.cells, Pt.slots] at X1 l1 y1 z1 st1 hQ1
  subst l1 y1 z1
  obtain ⟨t2_1, k2_1, cap2_1, b2_1, cn2_1, rfl, N1q, K1, f2, f3, f4, f5, f6, f7, f8, f9, f10⟩ := hQ1
  have KK1 : Keep h0 T1.heap [u0, bv] := Keep.trans (Keep.refl h0 [u0, bv]) K1 (allS (Or.inl (List.mem_of_getElem? (i := 0) rfl)) (allS (Or.inl (List.mem_of_getElem? (i := 1) rfl)) all0))
  have N1 := Fr.app N0 N1q
  have oq11 : n0 ≤ t2_1 := own_orc f10 g_bv (fun e_ => Nat.le_trans Z0 e_)
  have nq12 : u0 ≠ t2_1 := own_orn f10 (Ne.symm neE) (fun e_ => Nat.ne_of_lt (Nat.lt_of_lt_of_le P_E_u0.lt e_))
  have nq13 : u1 ≠ t2_1 := own_orn f10 neD (fun e_ => Nat.ne_of_lt (Nat.lt_of_lt_of_le P_E_u1.lt e_))
  have nq14 : tv ≠ t2_1 := own_orn f10 neA (fun e_ => Nat.ne_of_lt (Nat.lt_of_lt_of_le P_G_tv.lt e_))
  obtain ⟨fs, hr, hrun, hended, hW, hsame⟩ := X1.leave (v := some (.ref u0)) (fun h => by rw [Bd.returns] at h; cases h)
  refine ⟨_, _, pre0 _ ?_, hrun, hended, _, _, rfl, ?_, ⟨_, rfl⟩, hW, hsame.mono (by decide) (by decide)⟩
  · refine XS.aloadN X0.here hx rfl (oD hby D9 0 rfl) rfl rfl ?_
    refine XS.aloadN X0.here hx rfl (oD hby D9 1 rfl) rfl rfl ?_
    refine st1.trans ?_
    refine XS.pop X1.here hx rfl (oD hby D9 3 rfl) rfl rfl ?_
    refine XS.aloadN X1.here hx rfl (oD hby D9 4 rfl) rfl rfl ?_
    show Steps _ _ _ (T1.setTop (mkF m 7 #[rv u0, rv u1] [(.ref u0)])) _
    exact retOut X1 hx Bd.returns rfl (Or.inr (Or.inr (Or.inr (Or.inr ⟨rfl, rfl, rfl⟩)))) (oD hby D9 5 rfl) hr
  · show Q_rmBp Z u0 u1 tv kt z vs bv kb cap bs cnt xl xm zC h0 n0 _ T1.heap _
    exact ⟨t2_1, k2_1, cap2_1, b2_1, cn2_1, rfl, N1, KK1, f2, f3, f4, f5, f6, f7, f8, f9, f10⟩

theorem ef_rmI5 (m : MethodId) (x0 : Addr) (x1 : Addr) : entryFrame m #[(.ref x0), (.ref x1), .null] 5 = mkF m 0 #[rv x0, rv x1, .val .null, .unset, .unset] [] := by first | (simp [entryFrame, mkF, argsToLocals, Value.category]; done) | rfl
def Q_rmI5 (Z : State) (u0 : Addr) (u1 : Addr) (bv : Addr) (kb : ClassId) (cap : Int32) (bs : List Value) (cnt : Int32) (xl : List Int32) (zC : Int32) (h0 : Heap) (n0 : Nat) (v : Option Value) (h : Heap) (L : List Loc) : Prop := ∃ (yv : Addr), ∃ (ky : ClassId), ∃ (ys : List Value), (v = none ∧ Fr n0 L ∧ Keep h0 h [u0] ∧ h0.size ≤ yv ∧ Exa Z h u0 "java/lang/String" ∧ Fld Z h u0 "java/lang/String" "value" "[B" (.ref yv) ∧ Fld Z h u0 "java/lang/String" "coder" "B" (.int (0 : Int32)) ∧ Exa Z h yv "[B" ∧ Arv Z h yv ky .byte cnt ys (.int 0) ∧ (own_has ys xl))
theorem rmI5 (l : Launch) (Z : State) (a0 : Array Value) (hw : own_W a0 Z) (ws : List Jvm.Cond) (u0 : Addr) (u1 : Addr) (bv : Addr) (kb : ClassId) (cap : Int32) (bs : List Value) (cnt : Int32) (xl : List Int32) (zC : Int32) (h0 : Heap) (n0 : Nat) (Z0 : n0 ≤ h0.size) (P_E_u0 : Exa Z h0 u0 "java/lang/String") (P_F_u0_String_value : Fld Z h0 u0 "java/lang/String" "value" "[B" .null) (P_F_u0_String_coder : Fld Z h0 u0 "java/lang/String" "coder" "B" (.int (0 : Int32))) (P_E_u1 : Exa Z h0 u1 "java/lang/StringBuilder") (P_F_u1_AbstractStringBuilder_value : Fld Z h0 u1 "java/lang/AbstractStringBuilder" "value" "[B" (.ref bv)) (P_F_u1_AbstractStringBuilder_coder : Fld Z h0 u1 "java/lang/AbstractStringBuilder" "coder" "B" (.int (0 : Int32))) (P_F_u1_AbstractStringBuilder_count : Fld Z h0 u1 "java/lang/AbstractStringBuilder" "count" "I" (.int cnt)) (P_E_bv : Exa Z h0 bv "[B") (P_G_bv : Arv Z h0 bv kb .byte cap bs (.int 0)) (neA : u0 ≠ u1) (neB : u0 ≠ bv) (P_S_String_COMPACT_STRINGS : Sta Z h0 "java/lang/String" "COMPACT_STRINGS" "Z" (.int zC)) (hz : ¬ (zC = (0 : Int32))) (wi : own_in xl cap) (wl : own_len xl cnt) (w34 : xl.length ≤ 34) (wc : own_cap cap bs) (wh : own_has bs xl) (g_u0 : n0 ≤ u0) :
    own_MF l own_y27 (Jvm.Cond.code own_y27 jdk_42_method_150_code 5 none) ws ({ frames := 3, cells := 1, slots := 34, locals := 49 } : Room) #[(.ref u0), (.ref u1), .null] Z h0 (Q_rmI5 Z u0 u1 bv kb cap bs cnt xl zC h0 n0) := by
  refine own_enter (n0 := n0) (plainFor_of_name pn_12) (C := "java/lang/String") rfl (fun m => ef_rmI5 m u0 u1) fun p e s m below meth c s₁ Bd hx hby hml hown hnm hZ hh X0 e0 N0 pre0 => ?_
  obtain ⟨T1, X1, e1, st1⟩ := initO X0 hx hZ hown (oG hw 11 rfl) (oG hw 12 rfl) (oG hw 13 rfl) e0 (g := (mkF m 1 #[rv u0, rv u1, .val .null, .unset, .unset] [(.ref u0)])) rfl (by rw [hml]; rfl) rfl (oD hby D24 1 rfl) (by decide) (W := 0) (by show 2 * 0 + _ ≤ _; exact Nat.le_of_eq rfl) (by decide)
  obtain ⟨_, T2, L2, X2, hQ2, st2⟩ := own_cV X1 hx hown hZ (oG hw 158 rfl) (oG hw 159 rfl) (oG hw 161 rfl) (oG hw 160 rfl) (oG hw 65 rfl) (oG hw 162 rfl) (by decide) (rmGV l Z a0 hw [] u1 bv h0 n0 Z0 P_E_u1 P_F_u1_AbstractStringBuilder_value) (W := 0) (by decide) (by decide) P_E_u1 (g := (mkF m 5 #[rv u0, rv u1, .val .null, .unset, .unset] [(.ref u1)])) rfl (by rw [hml]; rfl) (argsL := []) (rest := []) (lenOf pd16 rfl) rfl (own_ww rfl) (oD hby D24 3 rfl) e1 rfl (by decide) (by decide)
  obtain ⟨rfl, N2q, e2⟩ := hQ2
  have N2 := Fr.app N0 N2q
  obtain ⟨_, T3, L3, X3, hQ3, st3⟩ := own_cW X2 hx hown hZ (oG hw 163 rfl) (oG hw 164 rfl) (own_nf (args := #[]) (y' := own_y16) (C := "java/lang/StringBuilder") (mvT hZ (oG hw 99 rfl)) rfl) (oG hw 166 rfl) (oG hw 167 rfl) (oG hw 57 rfl) (oG hw 168 rfl) (by decide) (rmBL l Z a0 hw [] u1 cnt h0 n0 Z0 P_E_u1 P_F_u1_AbstractStringBuilder_count) (W := 0) (by decide) (by decide) P_E_u1 (g := (mkF m 10 #[rv u0, rv u1, .val .null, rv bv, .unset] [(.ref u1)])) rfl (by rw [hml]; rfl) (argsL := []) (rest := []) (lenOf pd8 rfl) rfl (own_ww rfl) (oD hby D24 6 rfl) e2 rfl (by decide) (by decide)
  obtain ⟨rfl, N3q, e3⟩ := hQ3
  have N3 := Fr.app N2 N3q
  obtain ⟨_, T4, L4, X4, hQ4, st4⟩ := own_cV X3 hx hown hZ (oG hw 171 rfl) (oG hw 137 rfl) (oG hw 139 rfl) (oG hw 138 rfl) (oG hw 65 rfl) (oG hw 140 rfl) (by decide) (rmIL l Z a0 hw [] u1 zC h0 n0 Z0 P_E_u1 P_F_u1_AbstractStringBuilder_coder P_S_String_COMPACT_STRINGS hz) (W := 0) (by decide) (by decide) P_E_u1 (g := (mkF m 16 #[rv u0, rv u1, .val .null, rv bv, iv cnt] [(.ref u1)])) rfl (by rw [hml]; rfl) (argsL := []) (rest := []) (lenOf pd3 rfl) rfl (own_ww rfl) (oD hby D24 9 rfl) e3 rfl (by decide) (by decide)
  obtain ⟨rfl, N4q, e4⟩ := hQ4
  have N4 := Fr.app N3 N4q
  obtain ⟨T5, h5, X5, e5, W5, st5⟩ := putFN X4 hx hZ hown (oG hw 21 rfl) Via.refl e4 P_F_u0_String_coder P_E_u0 (Or.inr ⟨(oG hw 17 rfl), rfl, hnm⟩) (oG hw 2 rfl) (ty := .byte) (v' := (.int (0 : Int32))) (by decide) rfl rfl (g := (mkF m 24 #[rv u0, rv u1, .val .null, rv bv, iv cnt] [(.int (0 : Int32)), (.ref u0)])) rfl rfl (oD hby D24 13 rfl)
  have f5_ : Fld Z h5 u0 "java/lang/String" "coder" "B" (.int (0 : Int32)) := P_F_u0_String_coder.same W5
  have N6 := Fr.snoc X5 N4 g_u0
  have K7 : Keep h0 h5 [u0] := (Keep.refl h0 [u0]).wr W5 (Or.inl (List.mem_of_getElem? (i := 0) rfl))
  have f8 := (P_E_bv.wr W5)
  have f9 := (P_G_bv.other W5 (Ne.symm neB))
  have f10 := (Nat.le_trans Z0 (Keep.of_wr W5).1)
  obtain ⟨_, T11, L11, X11, hQ11, st11⟩ := own_cS X5 hx hown hZ (oG hw 172 rfl) (oG hw 173 rfl) (oG hw 174 rfl) (oG hw 175 rfl) (by decide) (rmRA l Z a0 hw [] bv cnt kb cap bs xl h5 n0 f10 f8 f9 wh wl w34 wi wc) (W := 1) (by decide) (by decide) (g := (mkF m 32 #[rv u0, rv u1, .val .null, rv bv, iv cnt] [(.int cnt), (.int (0 : Int32)), (.ref bv), (.ref u0)])) rfl (by rw [hml]; rfl) (argsL := [(.ref bv), (.int (0 : Int32)), (.int cnt)]) (rest := [(.ref u0)]) (lenOf pd6 rfl) rfl (own_ww rfl) (oD hby D24 18 rfl) e5 rfl (by decide) (by decide)
  have f12 := (P_E_u0.wr W5)
  have f13 := (P_E_u1.wr W5)
  obtain ⟨yv_11, ky_11, ys_11, rfl, N11q, K11, sx11_0, f14, f15, f16⟩ := hQ11
  have oyv_11 : n0 ≤ yv_11 := Nat.le_trans f10 sx11_0
  have zyv_11 : h0.size ≤ yv_11 := Nat.le_trans K7.1 sx11_0
  have ne17 : u0 ≠ yv_11 := Nat.ne_of_lt (Nat.lt_of_lt_of_le f12.lt sx11_0)
  have ne18 : u1 ≠ yv_11 := Nat.ne_of_lt (Nat.lt_of_lt_of_le f13.lt sx11_0)
  have ne19 : bv ≠ yv_11 := Nat.ne_of_lt (Nat.lt_of_lt_of_le f8.lt sx11_0)
  have KK11 : Keep h0 T11.heap [u0] := Keep.trans K7 K11 all0
  have N11 := Fr.app N6 N11q
  have f20 := (f12.keep K11)
  have f21 := ((P_F_u0_String_value.other W5 (Or.inr (slot_ne (Or.inr (oG hw 16 rfl)) (Or.inr (oG hw 17 rfl)) (by decide) (t := (.array .byte)) (t' := .byte) (by decide) (by decide)))).keep K11 nin0)
  obtain ⟨T22, h22, X22, e22, W22, st22⟩ := putF X11 hx hZ hown (host := "") (Or.inl (oG hw 20 rfl)) Via.refl rfl f21 f20 (Or.inr ⟨(oG hw 16 rfl), rfl, hnm⟩) (oG hw 2 rfl) (ty := (.array .byte)) (by decide) rfl rfl (g := (mkF m 35 #[rv u0, rv u1, .val .null, rv bv, iv cnt] [(.ref yv_11), (.ref u0)])) rfl rfl (oD hby D24 19 rfl)
  have f22_ : Fld Z h22 u0 "java/lang/String" "value" "[B" (.ref yv_11) := f21.same W22
  have N23 := Fr.snoc X22 N11 g_u0
  have K24 : Keep h0 h22 [u0] := KK11.wr W22 (Or.inl (List.mem_of_getElem? (i := 0) rfl))
  obtain ⟨fs, hr, hrun, hended, hW, hsame⟩ := X22.leave (v := none) (fun _ => rfl)
  have f25 := (f20.wr W22)
  have f26 := ((f5_.keep K11 nin0).other W22 (Or.inr (slot_ne (Or.inr (oG hw 17 rfl)) (Or.inr (oG hw 16 rfl)) (by decide) (t := .byte) (t' := (.array .byte)) (by decide) (by decide))))
  have f27 := (f14.wr W22)
  have f28 := (f15.other W22 (Ne.symm ne17))
  refine ⟨_, _, pre0 _ ?_, hrun, hended, _, _, rfl, ?_, ⟨_, rfl⟩, hW, hsame.mono (by decide) (by decide)⟩
  · refine XS.aloadN X0.here hx rfl (oD hby D24 0 rfl) rfl rfl ?_
    refine st1 _ ?_
    refine XS.aloadN X1.here hx rfl (oD hby D24 2 rfl) rfl rfl ?_
    refine st2 _ ?_
    refine XS.astoreN X2.here hx rfl (oD hby D24 4 rfl) rfl rfl rfl ?_
    refine XS.aloadN X2.here hx rfl (oD hby D24 5 rfl) rfl rfl ?_
    refine st3 _ ?_
    refine XS.istore X3.here hx rfl (oD hby D24 7 rfl) rfl rfl ?_
    refine XS.aloadN X3.here hx rfl (oD hby D24 8 rfl) rfl rfl ?_
    refine st4 _ ?_
    refine XS.ifNo X4.here hx rfl (oD hby D24 10 rfl) rfl ((if0 _ _).trans (feq (by decide : ¬ ((1 : Int32) = (0 : Int32)))).1) ?_
    refine XS.aloadN X4.here hx rfl (oD hby D24 11 rfl) rfl rfl ?_
    refine XS.iconst X4.here hx rfl (oD hby D24 12 rfl) ?_
    refine st5 _ ?_
    refine XS.aloadN X5.here hx rfl (oD hby D24 14 rfl) rfl rfl ?_
    refine XS.aloadN X5.here hx rfl (oD hby D24 15 rfl) rfl rfl ?_
    refine XS.iconst X5.here hx rfl (oD hby D24 16 rfl) ?_
    refine XS.iload X5.here hx rfl (oD hby D24 17 rfl) rfl ?_
    refine st11 _ ?_
    refine st22 _ ?_
    refine XS.goto X22.here hx rfl (pc0 := 38) (pc' := 97) rfl (oD hby D24 20 rfl) (by decide) (by decide) ?_
    show Steps _ _ _ (T22.setTop (mkF m 97 #[rv u0, rv u1, .val .null, rv bv, iv cnt] [])) _
    exact X22.returnOut hx Bd.returns (oD hby D24 21 rfl) hr
  · show Q_rmI5 Z u0 u1 bv kb cap bs cnt xl zC h0 n0 _ T22.heap _
    rw [e22]
    exact ⟨yv_11, ky_11, ys_11, rfl, N23, K24, zyv_11, f25, f22_, f26, f27, f28, f16⟩

theorem ef_rmI6 (m : MethodId) (x0 : Addr) (x1 : Addr) : entryFrame m #[(.ref x0), (.ref x1)] 2 = mkF m 0 #[rv x0, rv x1] [] := by first | (simp [entryFrame, mkF, argsToLocals, Value.category]; done) | rfl
def Q_rmI6 (Z : State) (u0 : Addr) (u1 : Addr) (bv : Addr) (kb : ClassId) (cap : Int32) (bs : List Value) (cnt : Int32) (xl : List Int32) (zC : Int32) (h0 : Heap) (n0 : Nat) (v : Option Value) (h : Heap) (L : List Loc) : Prop := ∃ (yv : Addr), ∃ (ky : ClassId), ∃ (ys : List Value), (v = none ∧ Fr n0 L ∧ Keep h0 h [u0] ∧ h0.size ≤ yv ∧ Exa Z h u0 "java/lang/String" ∧ Fld Z h u0 "java/lang/String" "value" "[B" (.ref yv) ∧ Fld Z h u0 "java/lang/String" "coder" "B" (.int (0 : Int32)) ∧ Exa Z h yv "[B" ∧ Arv Z h yv ky .byte cnt ys (.int 0) ∧ (own_has ys xl))
theorem rmI6 (l : Launch) (Z : State) (a0 : Array Value) (hw : own_W a0 Z) (ws : List Jvm.Cond) (u0 : Addr) (u1 : Addr) (bv : Addr) (kb : ClassId) (cap : Int32) (bs : List Value) (cnt : Int32) (xl : List Int32) (zC : Int32) (h0 : Heap) (n0 : Nat) (Z0 : n0 ≤ h0.size) (P_E_u0 : Exa Z h0 u0 "java/lang/String") (P_F_u0_String_value : Fld Z h0 u0 "java/lang/String" "value" "[B" .null) (P_F_u0_String_coder : Fld Z h0 u0 "java/lang/String" "coder" "B" (.int (0 : Int32))) (P_E_u1 : Exa Z h0 u1 "java/lang/StringBuilder") (P_F_u1_AbstractStringBuilder_value : Fld Z h0 u1 "java/lang/AbstractStringBuilder" "value" "[B" (.ref bv)) (P_F_u1_AbstractStringBuilder_coder : Fld Z h0 u1 "java/lang/AbstractStringBuilder" "coder" "B" (.int (0 : Int32))) (P_F_u1_AbstractStringBuilder_count : Fld Z h0 u1 "java/lang/AbstractStringBuilder" "count" "I" (.int cnt)) (P_E_bv : Exa Z h0 bv "[B") (P_G_bv : Arv Z h0 bv kb .byte cap bs (.int 0)) (neA : u0 ≠ u1) (neB : u0 ≠ bv) (P_S_String_COMPACT_STRINGS : Sta Z h0 "java/lang/String" "COMPACT_STRINGS" "Z" (.int zC)) (hz : ¬ (zC = (0 : Int32))) (wi : own_in xl cap) (wl : own_len xl cnt) (w34 : xl.length ≤ 34) (wc : own_cap cap bs) (wh : own_has bs xl) (g_u0 : n0 ≤ u0) :
    own_MF l own_y28 (Jvm.Cond.code own_y28 jdk_42_method_53_code 2 none) ws ({ frames := 4, cells := 1, slots := 34, locals := 65 } : Room) #[(.ref u0), (.ref u1)] Z h0 (Q_rmI6 Z u0 u1 bv kb cap bs cnt xl zC h0 n0) := by
  refine own_enter (n0 := n0) (plainFor_of_name pn_12) (C := "java/lang/String") rfl (fun m => ef_rmI6 m u0 u1) fun p e s m below meth c s₁ Bd hx hby hml hown hnm hZ hh X0 e0 N0 pre0 => ?_
  obtain ⟨_, T1, L1, X1, hQ1, st1⟩ := own_cI X0 hx rfl hown hZ (oG hw 155 rfl) (oG hw 156 rfl) (oG hw 3 rfl) (oG hw 157 rfl) (by decide) (rmI5 l Z a0 hw [] u0 u1 bv kb cap bs cnt xl zC h0 n0 Z0 P_E_u0 P_F_u0_String_value P_F_u0_String_coder P_E_u1 P_F_u1_AbstractStringBuilder_value P_F_u1_AbstractStringBuilder_coder P_F_u1_AbstractStringBuilder_count P_E_bv P_G_bv neA neB P_S_String_COMPACT_STRINGS hz wi wl w34 wc wh g_u0) (W := 0) (by decide) (by decide) (g := (mkF m 3 #[rv u0, rv u1] [.null, (.ref u1), (.ref u0)])) rfl (by rw [hml]; rfl) (a := u0) (argsL := [(.ref u1), .null]) (rest := []) (lenOf pd17 rfl) rfl (own_ww rfl) (oD hby D23 3 rfl) e0 rfl (by decide) (by decide)
  obtain ⟨yv_1, ky_1, ys_1, rfl, N1q, K1, sx1_0, f2, f3, f4, f5, f6, f7⟩ := hQ1
  have oyv_1 : n0 ≤ yv_1 := Nat.le_trans Z0 sx1_0
  have zyv_1 : h0.size ≤ yv_1 := Nat.le_trans (Keep.refl h0 [u0]).1 sx1_0
  have ne8 : u0 ≠ yv_1 := Nat.ne_of_lt (Nat.lt_of_lt_of_le P_E_u0.lt sx1_0)
  have ne9 : u1 ≠ yv_1 := Nat.ne_of_lt (Nat.lt_of_lt_of_le P_E_u1.lt sx1_0)
  have ne10 : bv ≠ yv_1 := Nat.ne_of_lt (Nat.lt_of_lt_of_le P_E_bv.lt sx1_0)
  have KK1 : Keep h0 T1.heap [u0] := Keep.trans (Keep.refl h0 [u0]) K1 (allS (Or.inl (List.mem_of_getElem? (i := 0) rfl)) all0)
  have N1 := Fr.app N0 N1q
  obtain ⟨fs, hr, hrun, hended, hW, hsame⟩ := X1.leave (v := none) (fun _ => rfl)
  refine ⟨_, _, pre0 _ ?_, hrun, hended, _, _, rfl, ?_, ⟨_, rfl⟩, hW, hsame.mono (by decide) (by decide)⟩
  · refine XS.aloadN X0.here hx rfl (oD hby D23 0 rfl) rfl rfl ?_
    refine XS.aloadN X0.here hx rfl (oD hby D23 1 rfl) rfl rfl ?_
    refine XS.aconstNull X0.here hx rfl (oD hby D23 2 rfl) ?_
    refine st1 _ ?_
    show Steps _ _ _ (T1.setTop (mkF m 6 #[rv u0, rv u1] [])) _
    exact X1.returnOut hx Bd.returns (oD hby D23 4 rfl) hr
  · show Q_rmI6 Z u0 u1 bv kb cap bs cnt xl zC h0 n0 _ T1.heap _
    exact ⟨yv_1, ky_1, ys_1, rfl, N1, KK1, zyv_1, f2, f3, f4, f5, f6, f7⟩

theorem ef_rmTS (m : MethodId) (x0 : Addr) : entryFrame m #[(.ref x0)] 1 = mkF m 0 #[rv x0] [] := by first | (simp [entryFrame, mkF, argsToLocals, Value.category]; done) | rfl
def Q_rmTS (Z : State) (u0 : Addr) (bv : Addr) (kb : ClassId) (cap : Int32) (bs : List Value) (cnt : Int32) (xl : List Int32) (zC : Int32) (h0 : Heap) (n0 : Nat) (v : Option Value) (h : Heap) (L : List Loc) : Prop := ∃ (sg : Addr), ∃ (yv : Addr), ∃ (ky : ClassId), ∃ (ys : List Value), (v = (some (.ref sg)) ∧ Fr n0 L ∧ Keep h0 h [] ∧ h0.size ≤ sg ∧ h0.size ≤ yv ∧ sg ≠ yv ∧ Exa Z h sg "java/lang/String" ∧ Fld Z h sg "java/lang/String" "value" "[B" (.ref yv) ∧ Fld Z h sg "java/lang/String" "coder" "B" (.int (0 : Int32)) ∧ Exa Z h yv "[B" ∧ Arv Z h yv ky .byte cnt ys (.int 0) ∧ (own_has ys xl))
theorem rmTS (l : Launch) (Z : State) (a0 : Array Value) (hw : own_W a0 Z) (ws : List Jvm.Cond) (u0 : Addr) (bv : Addr) (kb : ClassId) (cap : Int32) (bs : List Value) (cnt : Int32) (xl : List Int32) (zC : Int32) (h0 : Heap) (n0 : Nat) (Z0 : n0 ≤ h0.size) (P_E_u0 : Exa Z h0 u0 "java/lang/StringBuilder") (P_F_u0_AbstractStringBuilder_value : Fld Z h0 u0 "java/lang/AbstractStringBuilder" "value" "[B" (.ref bv)) (P_F_u0_AbstractStringBuilder_coder : Fld Z h0 u0 "java/lang/AbstractStringBuilder" "coder" "B" (.int (0 : Int32))) (P_F_u0_AbstractStringBuilder_count : Fld Z h0 u0 "java/lang/AbstractStringBuilder" "count" "I" (.int cnt)) (P_E_bv : Exa Z h0 bv "[B") (P_G_bv : Arv Z h0 bv kb .byte cap bs (.int 0)) (P_S_String_COMPACT_STRINGS : Sta Z h0 "java/lang/String" "COMPACT_STRINGS" "Z" (.int zC)) (hz : ¬ (zC = (0 : Int32))) (wi : own_in xl cap) (wl : own_len xl cnt) (w34 : xl.length ≤ 34) (wc : own_cap cap bs) (wh : own_has bs xl) :
    own_MF l own_y29 (Jvm.Cond.code own_y29 jdk_67_method_42_code 1 (some (.object "java/lang/String"))) ws ({ frames := 5, cells := 2, slots := 38, locals := 79 } : Room) #[(.ref u0)] Z h0 (Q_rmTS Z u0 bv kb cap bs cnt xl zC h0 n0) := by
  refine own_enter (n0 := n0) (plainFor_of_name pn_7) (C := "java/lang/StringBuilder") rfl (fun m => ef_rmTS m u0) fun p e s m below meth c s₁ Bd hx hby hml hown hnm hZ hh X0 e0 N0 pre0 => ?_
  obtain ⟨T1, h1, X1, e1, E1, A1, D1, U1, st1⟩ := newO X0 hx hZ hown (oG hw 151 rfl) (oG hw 2 rfl) (oG hw 3 rfl) e0 (g := (mkF m 0 #[rv u0] [])) rfl (oD hby D22 0 rfl) (by decide) (by decide)
  obtain ⟨b1, g1⟩ : ∃ z, z = h0.size := ⟨_, rfl⟩
  rw [← g1] at A1 D1 U1 st1
  have ne2 : u0 ≠ b1 := Nat.ne_of_lt (Nat.lt_of_lt_of_le P_E_u0.lt (Nat.le_of_eq g1.symm))
  have ne3 : bv ≠ b1 := Nat.ne_of_lt (Nat.lt_of_lt_of_le P_E_bv.lt (Nat.le_of_eq g1.symm))
  have o1 : n0 ≤ b1 := Nat.le_trans Z0 (Nat.le_of_eq g1.symm)
  have z1 : h0.size ≤ b1 := Nat.le_trans (Keep.refl h0 []).1 (Nat.le_of_eq g1.symm)
  have K1 : Keep h0 h1 [] := (Keep.refl h0 []).ext E1
  have f4 : Fld Z h1 b1 "java/lang/String" "value" "[B" .null := D1 (Or.inr (oG hw 16 rfl)) (ty := (.array .byte)) (by decide)
  have f5 : Fld Z h1 b1 "java/lang/String" "coder" "B" (.int (0 : Int32)) := D1 (Or.inr (oG hw 17 rfl)) (ty := .byte) (by decide)
  have f6 := (P_E_u0.ext E1)
  have f7 := (P_F_u0_AbstractStringBuilder_value.ext E1)
  have f8 := (P_F_u0_AbstractStringBuilder_coder.ext E1)
  have f9 := (P_F_u0_AbstractStringBuilder_count.ext E1)
  have f10 := (P_E_bv.ext E1)
  have f11 := (P_G_bv.ext E1)
  have f12 := (P_S_String_COMPACT_STRINGS.ext E1)
  have f13 := (Nat.le_trans Z0 E1.1)
  obtain ⟨_, T14, L14, X14, hQ14, st14⟩ := own_cI X1 hx rfl hown hZ (oG hw 152 rfl) (oG hw 153 rfl) (oG hw 3 rfl) (oG hw 154 rfl) (by decide) (rmI6 l Z a0 hw [] b1 u0 bv kb cap bs cnt xl zC h1 n0 f13 A1 f4 f5 f6 f7 f8 f9 f10 f11 (Ne.symm ne2) (Ne.symm ne3) f12 hz wi wl w34 wc wh o1) (W := 1) (by decide) (by decide) (g := (mkF m 5 #[rv u0] [(.ref u0), (.ref b1), (.ref b1)])) rfl (by rw [hml]; rfl) (a := b1) (argsL := [(.ref u0)]) (rest := [(.ref b1)]) (lenOf pd18 rfl) rfl (own_ww rfl) (oD hby D22 3 rfl) e1 rfl (by decide) (by decide)
  obtain ⟨yv_14, ky_14, ys_14, rfl, N14q, K14, sx14_0, f15, f16, f17, f18, f19, f20⟩ := hQ14
  have oyv_14 : n0 ≤ yv_14 := Nat.le_trans f13 sx14_0
  have zyv_14 : h0.size ≤ yv_14 := Nat.le_trans K1.1 sx14_0
  have ne21 : u0 ≠ yv_14 := Nat.ne_of_lt (Nat.lt_of_lt_of_le f6.lt sx14_0)
  have ne22 : bv ≠ yv_14 := Nat.ne_of_lt (Nat.lt_of_lt_of_le f10.lt sx14_0)
  have ne23 : b1 ≠ yv_14 := Nat.ne_of_lt (Nat.lt_of_lt_of_le A1.lt sx14_0)
  have KK14 : Keep h0 T14.heap [] := Keep.trans K1 K14 (allS (Or.inr z1) all0)
  have N14 := Fr.app N0 N14q
  obtain ⟨fs, hr, hrun, hended, hW, hsame⟩ := X14.leave (v := some (.ref b1)) (fun h => by rw [Bd.returns] at h; cases h)
  refine ⟨_, _, pre0 _ ?_, hrun, hended, _, _, rfl, ?_, ⟨_, rfl⟩, hW, hsame.mono (by decide) (by decide)⟩
  · refine st1 _ ?_
    refine XS.dup X1.here hx rfl (oD hby D22 1 rfl) rfl rfl ?_
    refine XS.aloadN X1.here hx rfl (oD hby D22 2 rfl) rfl rfl ?_
    refine st14 _ ?_
    show Steps _ _ _ (T14.setTop (mkF m 8 #[rv u0] [(.ref b1)])) _
    exact retOut X14 hx Bd.returns rfl (Or.inr (Or.inr (Or.inr (Or.inr ⟨rfl, rfl, rfl⟩)))) (oD hby D22 4 rfl) hr
  · show Q_rmTS Z u0 bv kb cap bs cnt xl zC h0 n0 _ T14.heap _
    exact ⟨b1, yv_14, ky_14, ys_14, rfl, N14, KK14, z1, zyv_14, ne23, f15, f16, f17, f18, f19, f20⟩

theorem ef_rmC5_1 (m : MethodId) (x0 : Addr) (x1 : Int32) (x2 : Addr) (x3 : Int32) (x4 : Int32) : entryFrame m #[(.ref x0), (.int x1), (.ref x2), (.int x3), (.int x4)] 7 = mkF m 0 #[rv x0, iv x1, rv x2, iv x3, iv x4, .unset, .unset] [] := by first | (simp [entryFrame, mkF, argsToLocals, Value.category]; done) | rfl
def Q_rmC5_1 (Z : State) (u0 : Addr) (u2 : Addr) (kA : ClassId) (c0 : Int32) (kB : ClassId) (d0 : Int32) (h0 : Heap) (n0 : Nat) (v : Option Value) (h : Heap) (L : List Loc) : Prop := (v = (some (.int (1 : Int32))) ∧ Fr n0 L ∧ Keep h0 h [u2] ∧ Arv Z h u2 kB .byte (1 : Int32) [(.int (own_by c0))] (.int (0 : Int32)))
theorem rmC5_1 (l : Launch) (Z : State) (a0 : Array Value) (hw : own_W a0 Z) (ws : List Jvm.Cond) (u0 : Addr) (u2 : Addr) (kA : ClassId) (c0 : Int32) (kB : ClassId) (d0 : Int32) (h0 : Heap) (n0 : Nat) (Z0 : n0 ≤ h0.size) (P_V_u0 : Arv Z h0 u0 kA .char (1 : Int32) [(.int c0)] (.int (0 : Int32))) (P_V_u2 : Arv Z h0 u2 kB .byte (1 : Int32) [(.int d0)] (.int (0 : Int32))) (neA : u0 ≠ u2) (hc0 : ¬ c0 < 0 ∧ ¬ (255 : Int32) < c0) (g_u2 : n0 ≤ u2) :
    own_MF l own_y30 (Jvm.Cond.code own_y30 jdk_52_method_21_code 7 (some .int)) ws ({ frames := 0, cells := 0, slots := 0, locals := 0 } : Room) #[(.ref u0), (.int (0 : Int32)), (.ref u2), (.int (0 : Int32)), (.int (1 : Int32))] Z h0 (Q_rmC5_1 Z u0 u2 kA c0 kB d0 h0 n0) := by
  refine own_enter (n0 := n0) (plainFor_of_name pn_41) (C := "java/lang/StringUTF16") rfl (fun m => ef_rmC5_1 m u0 (0 : Int32) u2 (0 : Int32) (1 : Int32)) fun p e s m below meth c s₁ Bd hx hby hml hown hnm hZ hh X0 e0 N0 pre0 => ?_
  obtain ⟨cl1, Ar1, qq1, S1, N1_, H1, G1⟩ := id P_V_u0
  have hin1 : ¬ ((0 : Int32) < 0 ∨ cl1.slots.size ≤ ((0 : Int32)).toNatClampNeg) := inb_of S1 ⟨by decide, by decide⟩
  have hat1 : cl1.slots[((0 : Int32)).toNatClampNeg]? = some (.int c0) := H1.at hin1 rfl
  obtain ⟨cl2, Ar2, qq2, S2, N2_, H2, G2⟩ := id P_V_u2
  have hin2 : ¬ ((0 : Int32) < 0 ∨ cl2.slots.size ≤ ((0 : Int32)).toNatClampNeg) := inb_of S2 ⟨by decide, by decide⟩
  obtain ⟨T3, h3, X3, e3, W3, st3⟩ := stB X0 hx hZ e0 Ar2 (j := (0 : Int32)) hin2 (g := (mkF m 31 #[rv u0, iv (0 : Int32), rv u2, iv (0 : Int32), iv (1 : Int32), iv (0 : Int32), iv c0] [(.int (c0.toInt8.toInt32)), (.int (0 : Int32)), (.ref u2)])) rfl rfl (oD hby D41 16 rfl)
  have V3 : Arv Z h3 u2 kB .byte (1 : Int32) [(.int (own_by c0))] (.int (0 : Int32)) := by have q_ := Arv.set Ar2 qq2 S2 N2_ H2 G2 (fits_nar_byte _) W3 0 rfl (Nat.le_of_ble_eq_true rfl); rw [own_by2 c0] at q_; exact q_
  have N4 := Fr.snoc X3 N0 g_u2
  have K5 : Keep h0 h3 [u2] := (Keep.refl h0 [u2]).wr W3 (Or.inl (List.mem_of_getElem? (i := 0) rfl))
  obtain ⟨fs, hr, hrun, hended, hW, hsame⟩ := X3.leave (v := some (.int (1 : Int32))) (fun h => by rw [Bd.returns] at h; cases h)
  refine ⟨_, _, pre0 _ ?_, hrun, hended, _, _, rfl, ?_, ⟨_, rfl⟩, hW, hsame.mono (by decide) (by decide)⟩
  · refine XS.iconst X0.here hx rfl (oD hby D41 0 rfl) ?_
    refine XS.istore X0.here hx rfl (oD hby D41 1 rfl) rfl rfl ?_
    refine XS.iload X0.here hx rfl (oD hby D41 2 rfl) rfl ?_
    refine XS.iload X0.here hx rfl (oD hby D41 3 rfl) rfl ?_
    refine XS.icmpNo X0.here hx rfl (oD hby D41 4 rfl) rfl (tlt (by decide : (0 : Int32) < (1 : Int32))).2.1 ?_
    refine XS.aloadN X0.here hx rfl (oD hby D41 5 rfl) rfl rfl ?_
    refine XS.iloadN X0.here hx rfl (oD hby D41 6 rfl) rfl ?_
    refine X0.caload hx (j := (0 : Int32)) (v := (.int c0)) (by rw [e0]; exact Ar1.1) (State.isArrayOf_alike hZ.alike Ar1.2.1) Ar1.2.2 hin1 hat1 (g := (mkF m 12 #[rv u0, iv (0 : Int32), rv u2, iv (0 : Int32), iv (1 : Int32), iv (0 : Int32), .unset] [(.int (0 : Int32)), (.ref u0)])) rfl rfl (oD hby D41 7 rfl) _ ?_
    refine XS.istore X0.here hx rfl (oD hby D41 8 rfl) rfl rfl ?_
    refine XS.iload X0.here hx rfl (oD hby D41 9 rfl) rfl ?_
    refine XS.sipush X0.here hx rfl (oD hby D41 10 rfl) ?_
    refine XS.icmpYes X0.here hx rfl (pc0 := 20) (pc' := 26) rfl (oD hby D41 11 rfl) rfl (flt hc0.2).2.2.2 (by decide) (by decide) ?_
    refine XS.aloadN X0.here hx rfl (oD hby D41 12 rfl) rfl rfl ?_
    refine XS.iloadN X0.here hx rfl (oD hby D41 13 rfl) rfl ?_
    refine XS.iload X0.here hx rfl (oD hby D41 14 rfl) rfl ?_
    refine XS.i2b X0.here hx rfl (oD hby D41 15 rfl) rfl ?_
    refine st3 _ ?_
    refine XS.iinc X3.here hx rfl (oD hby D41 17 rfl) rfl rfl ?_
    refine XS.iinc X3.here hx rfl (oD hby D41 18 rfl) rfl rfl ?_
    refine XS.iinc X3.here hx rfl (oD hby D41 19 rfl) rfl rfl ?_
    refine XS.goto X3.here hx rfl (pc0 := 41) (pc' := 3) rfl (oD hby D41 20 rfl) (by decide) (by decide) ?_
    refine XS.iload X3.here hx rfl (oD hby D41 2 rfl) rfl ?_
    refine XS.iload X3.here hx rfl (oD hby D41 3 rfl) rfl ?_
    show Steps _ _ _ (T3.setTop (mkF m 7 #[rv u0, iv (1 : Int32), rv u2, iv (1 : Int32), iv (1 : Int32), iv (1 : Int32), iv c0] [(.int (1 : Int32)), (.int (1 : Int32))])) _
    refine XS.icmpYes X3.here hx rfl (pc0 := 7) (pc' := 44) rfl (oD hby D41 4 rfl) rfl (flt (by decide : ¬ ((1 : Int32) < (1 : Int32)))).2.1 (by decide) (by decide) ?_
    refine XS.iload X3.here hx rfl (oD hby D41 21 rfl) rfl ?_
    show Steps _ _ _ (T3.setTop (mkF m 46 #[rv u0, iv (1 : Int32), rv u2, iv (1 : Int32), iv (1 : Int32), iv (1 : Int32), iv c0] [(.int (1 : Int32))])) _
    exact retI X3 hx Bd.returns (oD hby D41 22 rfl) hr
  · show Q_rmC5_1 Z u0 u2 kA c0 kB d0 h0 n0 _ T3.heap _
    rw [e3]
    exact ⟨rfl, N4, K5, V3⟩

theorem ef_rmC3_1 (m : MethodId) (x0 : Addr) (x1 : Int32) (x2 : Int32) : entryFrame m #[(.ref x0), (.int x1), (.int x2)] 6 = mkF m 0 #[rv x0, iv x1, iv x2, .unset, .unset, .unset] [] := by first | (simp [entryFrame, mkF, argsToLocals, Value.category]; done) | rfl
def Q_rmC3_1 (Z : State) (u0 : Addr) (kA : ClassId) (c0 : Int32) (h0 : Heap) (n0 : Nat) (v : Option Value) (h : Heap) (L : List Loc) : Prop := ∃ (t : Addr), ∃ (kt : ClassId), (v = (some (.ref t)) ∧ Fr n0 L ∧ Keep h0 h [] ∧ h0.size ≤ t ∧ Exa Z h t "[B" ∧ Arv Z h t kt .byte (1 : Int32) [(.int (own_by c0))] (.int (0 : Int32)))
theorem rmC3_1 (l : Launch) (Z : State) (a0 : Array Value) (hw : own_W a0 Z) (ws : List Jvm.Cond) (u0 : Addr) (kA : ClassId) (c0 : Int32) (h0 : Heap) (n0 : Nat) (Z0 : n0 ≤ h0.size) (P_V_u0 : Arv Z h0 u0 kA .char (1 : Int32) [(.int c0)] (.int (0 : Int32))) (hc0 : ¬ c0 < 0 ∧ ¬ (255 : Int32) < c0) :
    own_MF l own_y31 (Jvm.Cond.code own_y31 jdk_52_method_16_code 6 (some (.array .byte))) ws ({ frames := 1, cells := 1, slots := 1, locals := 18 } : Room) #[(.ref u0), (.int (0 : Int32)), (.int (1 : Int32))] Z h0 (Q_rmC3_1 Z u0 kA c0 h0 n0) := by
  refine own_enter (n0 := n0) (plainFor_of_name pn_41) (C := "java/lang/StringUTF16") rfl (fun m => ef_rmC3_1 m u0 (0 : Int32) (1 : Int32)) fun p e s m below meth c s₁ Bd hx hby hml hown hnm hZ hh X0 e0 N0 pre0 => ?_
  obtain ⟨T1, h1, k1, X1, e1, E1, A1, Q1, st1⟩ := newPE X0 hx hZ (oG hw 15 rfl) e0 (g := (mkF m 1 #[rv u0, iv (0 : Int32), iv (1 : Int32), .unset, .unset, .unset] [(.int (1 : Int32))])) rfl (oD hby D40 1 rfl) rfl (by decide) (cap := 1) (by decide) (by decide) (by decide) (by decide) (ad := "[B") rfl
  obtain ⟨b1, g1⟩ : ∃ z, z = h0.size := ⟨_, rfl⟩
  rw [← g1] at A1 st1 Q1
  have ne2 : u0 ≠ b1 := Nat.ne_of_lt (Nat.lt_of_lt_of_le P_V_u0.lt (Nat.le_of_eq g1.symm))
  have o1 : n0 ≤ b1 := Nat.le_trans Z0 (Nat.le_of_eq g1.symm)
  have z1 : h0.size ≤ b1 := Nat.le_trans (Keep.refl h0 []).1 (Nat.le_of_eq g1.symm)
  have K1 : Keep h0 h1 [] := (Keep.refl h0 []).ext E1
  have V1 : Arv Z h1 b1 k1 .byte (1 : Int32) [(.int (0 : Int32))] (.int (0 : Int32)) := (Arv.new A1 (by decide)).pad (pad_rep [] (.int (0 : Int32)) 1)
  have f3 := (P_V_u0.ext E1)
  have f4 := (Nat.le_trans Z0 E1.1)
  obtain ⟨_, T5, L5, X5, hQ5, st5⟩ := own_cS X1 hx hown hZ (oG hw 240 rfl) (oG hw 241 rfl) (oG hw 238 rfl) (oG hw 242 rfl) (by decide) (rmC5_1 l Z a0 hw [] u0 b1 kA c0 k1 (0 : Int32) h1 n0 f4 f3 V1 ne2 hc0 o1) (W := 0) (by decide) (by decide) (g := (mkF m 9 #[rv u0, iv (0 : Int32), iv (1 : Int32), rv b1, .unset, .unset] [(.int (1 : Int32)), (.int (0 : Int32)), (.ref b1), (.int (0 : Int32)), (.ref u0)])) rfl (by rw [hml]; rfl) (argsL := [(.ref u0), (.int (0 : Int32)), (.ref b1), (.int (0 : Int32)), (.int (1 : Int32))]) (rest := []) (lenOf pd19 rfl) rfl (own_ww rfl) (oD hby D40 8 rfl) e1 rfl (by decide) (by decide)
  obtain ⟨rfl, N5q, K5, f6⟩ := hQ5
  have KK5 : Keep h0 T5.heap [] := Keep.trans K1 K5 (allS (Or.inr z1) all0)
  have N5 := Fr.app N0 N5q
  obtain ⟨fs, hr, hrun, hended, hW, hsame⟩ := X5.leave (v := some (.ref b1)) (fun h => by rw [Bd.returns] at h; cases h)
  have f7 := (Q1.keep K5)
  refine ⟨_, _, pre0 _ ?_, hrun, hended, _, _, rfl, ?_, ⟨_, rfl⟩, hW, hsame.mono (by decide) (by decide)⟩
  · refine XS.iloadN X0.here hx rfl (oD hby D40 0 rfl) rfl ?_
    refine st1 _ ?_
    refine XS.astoreN X1.here hx rfl (oD hby D40 2 rfl) rfl rfl rfl ?_
    refine XS.aloadN X1.here hx rfl (oD hby D40 3 rfl) rfl rfl ?_
    refine XS.iloadN X1.here hx rfl (oD hby D40 4 rfl) rfl ?_
    refine XS.aloadN X1.here hx rfl (oD hby D40 5 rfl) rfl rfl ?_
    refine XS.iconst X1.here hx rfl (oD hby D40 6 rfl) ?_
    refine XS.iloadN X1.here hx rfl (oD hby D40 7 rfl) rfl ?_
    refine st5 _ ?_
    refine XS.istore X5.here hx rfl (oD hby D40 9 rfl) rfl rfl ?_
    refine XS.iload X5.here hx rfl (oD hby D40 10 rfl) rfl ?_
    refine XS.iloadN X5.here hx rfl (oD hby D40 11 rfl) rfl ?_
    refine XS.icmpYes X5.here hx rfl (pc0 := 17) (pc' := 57) rfl (oD hby D40 12 rfl) rfl (teq (by decide : (1 : Int32) = (1 : Int32))).1 (by decide) (by decide) ?_
    refine XS.aloadN X5.here hx rfl (oD hby D40 13 rfl) rfl rfl ?_
    show Steps _ _ _ (T5.setTop (mkF m 58 #[rv u0, iv (0 : Int32), iv (1 : Int32), rv b1, iv (1 : Int32), .unset] [(.ref b1)])) _
    exact retOut X5 hx Bd.returns rfl (Or.inr (Or.inr (Or.inr (Or.inr ⟨rfl, rfl, rfl⟩)))) (oD hby D40 14 rfl) hr
  · show Q_rmC3_1 Z u0 kA c0 h0 n0 _ T5.heap _
    exact ⟨b1, k1, rfl, N5, KK5, z1, f7, f6⟩

theorem ef_rmCF1 (m : MethodId) (x0 : Addr) (x1 : Int32) : entryFrame m #[(.ref x0), (.int x1)] 2 = mkF m 0 #[rv x0, iv x1] [] := by first | (simp [entryFrame, mkF, argsToLocals, Value.category]; done) | rfl
theorem rmCF1 (l : Launch) (Z : State) (a0 : Array Value) (hw : own_W a0 Z) (ws : List Jvm.Cond) (u0 : Addr) (kt : ClassId) (vs : List Value) (h0 : Heap) (n0 : Nat) (Z0 : n0 ≤ h0.size) (P_G_u0 : Arv Z h0 u0 kt .byte (1 : Int32) vs (.int 0)) :
    own_MF l own_y32 (Jvm.Cond.code own_y32 jdk_52_method_15_code 2 (some .byte)) ws ({ frames := 0, cells := 0, slots := 0, locals := 0 } : Room) #[(.ref u0), (.int (1 : Int32))] Z h0 (own_QP (some (.int (0 : Int32))) h0 n0) := by
  refine own_enter (n0 := n0) (plainFor_of_name pn_41) (C := "java/lang/StringUTF16") rfl (fun m => ef_rmCF1 m u0 (1 : Int32)) fun p e s m below meth c s₁ Bd hx hby hml hown hnm hZ hh X0 e0 N0 pre0 => ?_
  obtain ⟨cl1, Ar1, qq1, S1, N1_, H1, G1⟩ := id P_G_u0
  obtain ⟨fs, hr, hrun, hended, hW, hsame⟩ := X0.leave (v := some (.int (0 : Int32))) (fun h => by rw [Bd.returns] at h; cases h)
  refine ⟨_, _, pre0 _ ?_, hrun, hended, _, _, rfl, ?_, ⟨_, rfl⟩, hW, hsame.mono (by decide) (by decide)⟩
  · refine XS.iloadN X0.here hx rfl (oD hby D42 0 rfl) rfl ?_
    refine XS.aloadN X0.here hx rfl (oD hby D42 1 rfl) rfl rfl ?_
    refine X0.arraylength hx (by rw [e0]; exact Ar1.1) (State.isArrayOf_alike hZ.alike Ar1.2.1) (g := (mkF m 2 #[rv u0, iv (1 : Int32)] [(.ref u0), (.int (1 : Int32))])) rfl rfl (oD hby D42 2 rfl) _ ?_
    rw [len_of S1 N1_]
    refine XS.isub X0.here hx rfl (oD hby D42 3 rfl) rfl ?_
    refine XS.bipush X0.here hx rfl (oD hby D42 4 rfl) ?_
    refine XS.iushr X0.here hx rfl (oD hby D42 5 rfl) rfl ?_
    show Steps _ _ _ (s₁.setTop (mkF m 7 #[rv u0, iv (1 : Int32)] [(.int (((0 : Int32).toUInt32 >>> ((31 : Int32) &&& 31).toUInt32).toInt32))])) _
    rw [(by decide : (((0 : Int32).toUInt32 >>> ((31 : Int32) &&& 31).toUInt32).toInt32) = (0 : Int32))]
    refine XS.i2b X0.here hx rfl (oD hby D42 6 rfl) rfl ?_
    show Steps _ _ _ (s₁.setTop (mkF m 8 #[rv u0, iv (1 : Int32)] [(.int ((0 : Int32).toInt8.toInt32))])) _
    rw [(by decide : ((0 : Int32).toInt8.toInt32) = (0 : Int32))]
    show Steps _ _ _ (s₁.setTop (mkF m 8 #[rv u0, iv (1 : Int32)] [(.int (0 : Int32))])) _
    exact retN X0 hx (t := .byte) Bd.returns (by simp) (oD hby D42 7 rfl) hr
  · show own_QP (some (.int (0 : Int32))) h0 n0 _ s₁.heap _
    rw [e0]
    exact ⟨rfl, N0, rfl⟩

theorem ef_rmI4_1 (m : MethodId) (x0 : Addr) (x1 : Addr) (x2 : Int32) (x3 : Int32) : entryFrame m #[(.ref x0), (.ref x1), (.int x2), (.int x3), .null] 6 = mkF m 0 #[rv x0, rv x1, iv x2, iv x3, .val .null, .unset] [] := by first | (simp [entryFrame, mkF, argsToLocals, Value.category]; done) | rfl
def Q_rmI4_1 (Z : State) (u0 : Addr) (u1 : Addr) (kA : ClassId) (c0 : Int32) (zC : Int32) (h0 : Heap) (n0 : Nat) (v : Option Value) (h : Heap) (L : List Loc) : Prop := ∃ (t : Addr), ∃ (kt : ClassId), (v = none ∧ Fr n0 L ∧ Keep h0 h [u0] ∧ h0.size ≤ t ∧ Exa Z h u0 "java/lang/String" ∧ Fld Z h u0 "java/lang/String" "value" "[B" (.ref t) ∧ Fld Z h u0 "java/lang/String" "coder" "B" (.int (0 : Int32)) ∧ Exa Z h t "[B" ∧ Arv Z h t kt .byte (1 : Int32) [(.int (own_by c0))] (.int (0 : Int32)))
theorem rmI4_1 (l : Launch) (Z : State) (a0 : Array Value) (hw : own_W a0 Z) (ws : List Jvm.Cond) (u0 : Addr) (u1 : Addr) (kA : ClassId) (c0 : Int32) (zC : Int32) (h0 : Heap) (n0 : Nat) (Z0 : n0 ≤ h0.size) (P_E_u0 : Exa Z h0 u0 "java/lang/String") (P_F_u0_String_value : Fld Z h0 u0 "java/lang/String" "value" "[B" .null) (P_F_u0_String_coder : Fld Z h0 u0 "java/lang/String" "coder" "B" (.int (0 : Int32))) (P_V_u1 : Arv Z h0 u1 kA .char (1 : Int32) [(.int c0)] (.int (0 : Int32))) (neA : u0 ≠ u1) (hc0 : ¬ c0 < 0 ∧ ¬ (255 : Int32) < c0) (P_S_String_COMPACT_STRINGS : Sta Z h0 "java/lang/String" "COMPACT_STRINGS" "Z" (.int zC)) (hz : ¬ (zC = (0 : Int32))) (g_u0 : n0 ≤ u0) :
    own_MF l own_y33 (Jvm.Cond.code own_y33 jdk_42_method_149_code 6 none) ws ({ frames := 2, cells := 1, slots := 1, locals := 35 } : Room) #[(.ref u0), (.ref u1), (.int (0 : Int32)), (.int (1 : Int32)), .null] Z h0 (Q_rmI4_1 Z u0 u1 kA c0 zC h0 n0) := by
  refine own_enter (n0 := n0) (plainFor_of_name pn_12) (C := "java/lang/String") rfl (fun m => ef_rmI4_1 m u0 u1 (0 : Int32) (1 : Int32)) fun p e s m below meth c s₁ Bd hx hby hml hown hnm hZ hh X0 e0 N0 pre0 => ?_
  obtain ⟨T1, X1, e1, st1⟩ := initO X0 hx hZ hown (oG hw 11 rfl) (oG hw 12 rfl) (oG hw 13 rfl) e0 (g := (mkF m 1 #[rv u0, rv u1, iv (0 : Int32), iv (1 : Int32), .val .null, .unset] [(.ref u0)])) rfl (by rw [hml]; rfl) rfl (oD hby D2 1 rfl) (by decide) (W := 0) (by show 2 * 0 + _ ≤ _; exact Nat.le_of_eq rfl) (by decide)
  obtain ⟨T2, X2, e2, st2⟩ := getS2 X1 hx hZ hown (host := "") (Or.inl (oG hw 93 rfl)) Via.refl e1 P_S_String_COMPACT_STRINGS (g := (mkF m 27 #[rv u0, rv u1, iv (0 : Int32), iv (1 : Int32), .val .null, .unset] [])) rfl (oD hby D2 4 rfl)
  obtain ⟨_, T3, L3, X3, hQ3, st3⟩ := own_cS X2 hx hown hZ (oG hw 236 rfl) (oG hw 237 rfl) (oG hw 238 rfl) (oG hw 239 rfl) (by decide) (rmC3_1 l Z a0 hw [] u1 kA c0 h0 n0 Z0 P_V_u1 hc0) (W := 0) (by decide) (by decide) (g := (mkF m 36 #[rv u0, rv u1, iv (0 : Int32), iv (1 : Int32), .val .null, .unset] [(.int (1 : Int32)), (.int (0 : Int32)), (.ref u1)])) rfl (by rw [hml]; rfl) (argsL := [(.ref u1), (.int (0 : Int32)), (.int (1 : Int32))]) (rest := []) (lenOf pd20 rfl) rfl (own_ww rfl) (oD hby D2 9 rfl) e2 rfl (by decide) (by decide)
  obtain ⟨t_3, kt_3, rfl, N3q, K3, sx3_0, f4, f5⟩ := hQ3
  have ot_3 : n0 ≤ t_3 := Nat.le_trans Z0 sx3_0
  have zt_3 : h0.size ≤ t_3 := Nat.le_trans (Keep.refl h0 [u0]).1 sx3_0
  have ne6 : u0 ≠ t_3 := Nat.ne_of_lt (Nat.lt_of_lt_of_le P_E_u0.lt sx3_0)
  have ne7 : u1 ≠ t_3 := Nat.ne_of_lt (Nat.lt_of_lt_of_le P_V_u1.lt sx3_0)
  have KK3 : Keep h0 T3.heap [u0] := Keep.trans (Keep.refl h0 [u0]) K3 all0
  have N3 := Fr.app N0 N3q
  have f8 := (Nat.le_trans Z0 K3.1)
  obtain ⟨_, T9, L9, X9, hQ9, st9⟩ := own_cS X3 hx hown hZ (oG hw 243 rfl) (oG hw 244 rfl) (oG hw 238 rfl) (oG hw 245 rfl) (by decide) (rmCF1 l Z a0 hw [] t_3 kt_3 [(.int (own_by c0))] T3.heap n0 f8 f5) (W := 1) (by decide) (by decide) (g := (mkF m 45 #[rv u0, rv u1, iv (0 : Int32), iv (1 : Int32), .val .null, rv t_3] [(.int (1 : Int32)), (.ref t_3), (.ref u0)])) rfl (by rw [hml]; rfl) (argsL := [(.ref t_3), (.int (1 : Int32))]) (rest := [(.ref u0)]) (lenOf pd21 rfl) rfl (own_ww rfl) (oD hby D2 14 rfl) rfl rfl (by decide) (by decide)
  obtain ⟨rfl, N9q, e9⟩ := hQ9
  have N9 := Fr.app N3 N9q
  have f10 := (P_E_u0.keep K3)
  have f11 := (P_F_u0_String_coder.keep K3 nin0)
  obtain ⟨T12, h12, X12, e12, W12, st12⟩ := putFN X9 hx hZ hown (oG hw 21 rfl) Via.refl e9 f11 f10 (Or.inr ⟨(oG hw 17 rfl), rfl, hnm⟩) (oG hw 2 rfl) (ty := .byte) (v' := (.int (0 : Int32))) (by decide) rfl rfl (g := (mkF m 48 #[rv u0, rv u1, iv (0 : Int32), iv (1 : Int32), .val .null, rv t_3] [(.int (0 : Int32)), (.ref u0)])) rfl rfl (oD hby D2 15 rfl)
  have f12_ : Fld Z h12 u0 "java/lang/String" "coder" "B" (.int (0 : Int32)) := f11.same W12
  have N13 := Fr.snoc X12 N9 g_u0
  have K14 : Keep h0 h12 [u0] := KK3.wr W12 (Or.inl (List.mem_of_getElem? (i := 0) rfl))
  have f15 := (f10.wr W12)
  have f16 := ((P_F_u0_String_value.keep K3 nin0).other W12 (Or.inr (slot_ne (Or.inr (oG hw 16 rfl)) (Or.inr (oG hw 17 rfl)) (by decide) (t := (.array .byte)) (t' := .byte) (by decide) (by decide))))
  obtain ⟨T17, h17, X17, e17, W17, st17⟩ := putF X12 hx hZ hown (host := "") (Or.inl (oG hw 20 rfl)) Via.refl e12 f16 f15 (Or.inr ⟨(oG hw 16 rfl), rfl, hnm⟩) (oG hw 2 rfl) (ty := (.array .byte)) (by decide) rfl rfl (g := (mkF m 54 #[rv u0, rv u1, iv (0 : Int32), iv (1 : Int32), .val .null, rv t_3] [(.ref t_3), (.ref u0)])) rfl rfl (oD hby D2 18 rfl)
  have f17_ : Fld Z h17 u0 "java/lang/String" "value" "[B" (.ref t_3) := f16.same W17
  have N18 := Fr.snoc X17 N13 g_u0
  have K19 : Keep h0 h17 [u0] := K14.wr W17 (Or.inl (List.mem_of_getElem? (i := 0) rfl))
  obtain ⟨fs, hr, hrun, hended, hW, hsame⟩ := X17.leave (v := none) (fun _ => rfl)
  have f20 := (f15.wr W17)
  have f21 := (f12_.other W17 (Or.inr (slot_ne (Or.inr (oG hw 17 rfl)) (Or.inr (oG hw 16 rfl)) (by decide) (t := .byte) (t' := (.array .byte)) (by decide) (by decide))))
  have f22 := ((f4.wr W12).wr W17)
  have f23 := ((f5.other W12 (Ne.symm ne6)).other W17 (Ne.symm ne6))
  refine ⟨_, _, pre0 _ ?_, hrun, hended, _, _, rfl, ?_, ⟨_, rfl⟩, hW, hsame.mono (by decide) (by decide)⟩
  · refine XS.aloadN X0.here hx rfl (oD hby D2 0 rfl) rfl rfl ?_
    refine st1 _ ?_
    refine XS.iloadN X1.here hx rfl (oD hby D2 2 rfl) rfl ?_
    refine XS.ifYes X1.here hx rfl (pc0 := 5) (pc' := 27) rfl (oD hby D2 3 rfl) rfl ((if0 _ _).trans (feq (by decide : ¬ ((1 : Int32) = (0 : Int32)))).2) (by decide) (by decide) ?_
    refine st2 _ ?_
    refine XS.ifNo X2.here hx rfl (oD hby D2 5 rfl) rfl ((if0 _ _).trans (feq hz).1) ?_
    refine XS.aloadN X2.here hx rfl (oD hby D2 6 rfl) rfl rfl ?_
    refine XS.iloadN X2.here hx rfl (oD hby D2 7 rfl) rfl ?_
    refine XS.iloadN X2.here hx rfl (oD hby D2 8 rfl) rfl ?_
    refine st3 _ ?_
    refine XS.astore X3.here hx rfl (oD hby D2 10 rfl) rfl rfl rfl ?_
    refine XS.aloadN X3.here hx rfl (oD hby D2 11 rfl) rfl rfl ?_
    refine XS.aload X3.here hx rfl (oD hby D2 12 rfl) rfl rfl ?_
    refine XS.iloadN X3.here hx rfl (oD hby D2 13 rfl) rfl ?_
    refine st9 _ ?_
    refine st12 _ ?_
    refine XS.aloadN X12.here hx rfl (oD hby D2 16 rfl) rfl rfl ?_
    refine XS.aload X12.here hx rfl (oD hby D2 17 rfl) rfl rfl ?_
    refine st17 _ ?_
    show Steps _ _ _ (T17.setTop (mkF m 57 #[rv u0, rv u1, iv (0 : Int32), iv (1 : Int32), .val .null, rv t_3] [])) _
    exact X17.returnOut hx Bd.returns (oD hby D2 19 rfl) hr
  · show Q_rmI4_1 Z u0 u1 kA c0 zC h0 n0 _ T17.heap _
    rw [e17]
    exact ⟨t_3, kt_3, rfl, N18, K19, zt_3, f20, f17_, f21, f22, f23⟩

theorem ef_rmI1_1 (m : MethodId) (x0 : Addr) (x1 : Addr) : entryFrame m #[(.ref x0), (.ref x1)] 2 = mkF m 0 #[rv x0, rv x1] [] := by first | (simp [entryFrame, mkF, argsToLocals, Value.category]; done) | rfl
def Q_rmI1_1 (Z : State) (u0 : Addr) (u1 : Addr) (kA : ClassId) (c0 : Int32) (zC : Int32) (h0 : Heap) (n0 : Nat) (v : Option Value) (h : Heap) (L : List Loc) : Prop := ∃ (t : Addr), ∃ (kt : ClassId), (v = none ∧ Fr n0 L ∧ Keep h0 h [u0] ∧ h0.size ≤ t ∧ Exa Z h u0 "java/lang/String" ∧ Fld Z h u0 "java/lang/String" "value" "[B" (.ref t) ∧ Fld Z h u0 "java/lang/String" "coder" "B" (.int (0 : Int32)) ∧ Exa Z h t "[B" ∧ Arv Z h t kt .byte (1 : Int32) [(.int (own_by c0))] (.int (0 : Int32)))
theorem rmI1_1 (l : Launch) (Z : State) (a0 : Array Value) (hw : own_W a0 Z) (ws : List Jvm.Cond) (u0 : Addr) (u1 : Addr) (kA : ClassId) (c0 : Int32) (zC : Int32) (h0 : Heap) (n0 : Nat) (Z0 : n0 ≤ h0.size) (P_E_u0 : Exa Z h0 u0 "java/lang/String") (P_F_u0_String_value : Fld Z h0 u0 "java/lang/String" "value" "[B" .null) (P_F_u0_String_coder : Fld Z h0 u0 "java/lang/String" "coder" "B" (.int (0 : Int32))) (P_V_u1 : Arv Z h0 u1 kA .char (1 : Int32) [(.int c0)] (.int (0 : Int32))) (neA : u0 ≠ u1) (hc0 : ¬ c0 < 0 ∧ ¬ (255 : Int32) < c0) (P_S_String_COMPACT_STRINGS : Sta Z h0 "java/lang/String" "COMPACT_STRINGS" "Z" (.int zC)) (hz : ¬ (zC = (0 : Int32))) (g_u0 : n0 ≤ u0) :
    own_MF l own_y34 (Jvm.Cond.code own_y34 jdk_42_method_3_code 2 none) ws ({ frames := 3, cells := 1, slots := 1, locals := 52 } : Room) #[(.ref u0), (.ref u1)] Z h0 (Q_rmI1_1 Z u0 u1 kA c0 zC h0 n0) := by
  refine own_enter (n0 := n0) (plainFor_of_name pn_12) (C := "java/lang/String") rfl (fun m => ef_rmI1_1 m u0 u1) fun p e s m below meth c s₁ Bd hx hby hml hown hnm hZ hh X0 e0 N0 pre0 => ?_
  obtain ⟨cl1, Ar1, qq1, S1, N1_, H1, G1⟩ := id P_V_u1
  obtain ⟨_, T2, L2, X2, hQ2, st2⟩ := own_cI X0 hx rfl hown hZ (oG hw 7 rfl) (oG hw 8 rfl) (oG hw 3 rfl) (oG hw 10 rfl) (by decide) (rmI4_1 l Z a0 hw [] u0 u1 kA c0 zC h0 n0 Z0 P_E_u0 P_F_u0_String_value P_F_u0_String_coder P_V_u1 neA hc0 P_S_String_COMPACT_STRINGS hz g_u0) (W := 0) (by decide) (by decide) (g := (mkF m 6 #[rv u0, rv u1] [.null, (.int (1 : Int32)), (.int (0 : Int32)), (.ref u1), (.ref u0)])) rfl (by rw [hml]; rfl) (a := u0) (argsL := [(.ref u1), (.int (0 : Int32)), (.int (1 : Int32)), .null]) (rest := []) (lenOf pd22 rfl) rfl (own_ww rfl) (oD hby D1 6 rfl) e0 rfl (by decide) (by decide)
  obtain ⟨t_2, kt_2, rfl, N2q, K2, sx2_0, f3, f4, f5, f6, f7⟩ := hQ2
  have ot_2 : n0 ≤ t_2 := Nat.le_trans Z0 sx2_0
  have zt_2 : h0.size ≤ t_2 := Nat.le_trans (Keep.refl h0 [u0]).1 sx2_0
  have ne8 : u0 ≠ t_2 := Nat.ne_of_lt (Nat.lt_of_lt_of_le P_E_u0.lt sx2_0)
  have ne9 : u1 ≠ t_2 := Nat.ne_of_lt (Nat.lt_of_lt_of_le P_V_u1.lt sx2_0)
  have KK2 : Keep h0 T2.heap [u0] := Keep.trans (Keep.refl h0 [u0]) K2 (allS (Or.inl (List.mem_of_getElem? (i := 0) rfl)) all0)
  have N2 := Fr.app N0 N2q
  obtain ⟨fs, hr, hrun, hended, hW, hsame⟩ := X2.leave (v := none) (fun _ => rfl)
  refine ⟨_, _, pre0 _ ?_, hrun, hended, _, _, rfl, ?_, ⟨_, rfl⟩, hW, hsame.mono (by decide) (by decide)⟩
  · refine XS.aloadN X0.here hx rfl (oD hby D1 0 rfl) rfl rfl ?_
    refine XS.aloadN X0.here hx rfl (oD hby D1 1 rfl) rfl rfl ?_
    refine XS.iconst X0.here hx rfl (oD hby D1 2 rfl) ?_
    refine XS.aloadN X0.here hx rfl (oD hby D1 3 rfl) rfl rfl ?_
    refine X0.arraylength hx (by rw [e0]; exact Ar1.1) (State.isArrayOf_alike hZ.alike Ar1.2.1) (g := (mkF m 4 #[rv u0, rv u1] [(.ref u1), (.int (0 : Int32)), (.ref u1), (.ref u0)])) rfl rfl (oD hby D1 4 rfl) _ ?_
    rw [len_of S1 N1_]
    refine XS.aconstNull X0.here hx rfl (oD hby D1 5 rfl) ?_
    refine st2 _ ?_
    show Steps _ _ _ (T2.setTop (mkF m 9 #[rv u0, rv u1] [])) _
    exact X2.returnOut hx Bd.returns (oD hby D1 7 rfl) hr
  · show Q_rmI1_1 Z u0 u1 kA c0 zC h0 n0 _ T2.heap _
    exact ⟨t_2, kt_2, rfl, N2, KK2, zt_2, f3, f4, f5, f6, f7⟩

theorem ef_rmC5_2 (m : MethodId) (x0 : Addr) (x1 : Int32) (x2 : Addr) (x3 : Int32) (x4 : Int32) : entryFrame m #[(.ref x0), (.int x1), (.ref x2), (.int x3), (.int x4)] 7 = mkF m 0 #[rv x0, iv x1, rv x2, iv x3, iv x4, .unset, .unset] [] := by first | (simp [entryFrame, mkF, argsToLocals, Value.category]; done) | rfl
def Q_rmC5_2 (Z : State) (u0 : Addr) (u2 : Addr) (kA : ClassId) (c0 : Int32) (c1 : Int32) (kB : ClassId) (d0 : Int32) (d1 : Int32) (h0 : Heap) (n0 : Nat) (v : Option Value) (h : Heap) (L : List Loc) : Prop := (v = (some (.int (2 : Int32))) ∧ Fr n0 L ∧ Keep h0 h [u2] ∧ Arv Z h u2 kB .byte (2 : Int32) [(.int (own_by c0)), (.int (own_by c1))] (.int (0 : Int32)))
theorem rmC5_2 (l : Launch) (Z : State) (a0 : Array Value) (hw : own_W a0 Z) (ws : List Jvm.Cond) (u0 : Addr) (u2 : Addr) (kA : ClassId) (c0 : Int32) (c1 : Int32) (kB : ClassId) (d0 : Int32) (d1 : Int32) (h0 : Heap) (n0 : Nat) (Z0 : n0 ≤ h0.size) (P_V_u0 : Arv Z h0 u0 kA .char (2 : Int32) [(.int c0), (.int c1)] (.int (0 : Int32))) (P_V_u2 : Arv Z h0 u2 kB .byte (2 : Int32) [(.int d0), (.int d1)] (.int (0 : Int32))) (neA : u0 ≠ u2) (hc0 : ¬ c0 < 0 ∧ ¬ (255 : Int32) < c0) (hc1 : ¬ c1 < 0 ∧ ¬ (255 : Int32) < c1) (g_u2 : n0 ≤ u2) :
    own_MF l own_y30 (Jvm.Cond.code own_y30 jdk_52_method_21_code 7 (some .int)) ws ({ frames := 0, cells := 0, slots := 0, locals := 0 } : Room) #[(.ref u0), (.int (0 : Int32)), (.ref u2), (.int (0 : Int32)), (.int (2 : Int32))] Z h0 (Q_rmC5_2 Z u0 u2 kA c0 c1 kB d0 d1 h0 n0) := by
  refine own_enter (n0 := n0) (plainFor_of_name pn_41) (C := "java/lang/StringUTF16") rfl (fun m => ef_rmC5_2 m u0 (0 : Int32) u2 (0 : Int32) (2 : Int32)) fun p e s m below meth c s₁ Bd hx hby hml hown hnm hZ hh X0 e0 N0 pre0 => ?_
  obtain ⟨cl1, Ar1, qq1, S1, N1_, H1, G1⟩ := id P_V_u0
  have hin1 : ¬ ((0 : Int32) < 0 ∨ cl1.slots.size ≤ ((0 : Int32)).toNatClampNeg) := inb_of S1 ⟨by decide, by decide⟩
  have hat1 : cl1.slots[((0 : Int32)).toNatClampNeg]? = some (.int c0) := H1.at hin1 rfl
  obtain ⟨cl2, Ar2, qq2, S2, N2_, H2, G2⟩ := id P_V_u2
  have hin2 : ¬ ((0 : Int32) < 0 ∨ cl2.slots.size ≤ ((0 : Int32)).toNatClampNeg) := inb_of S2 ⟨by decide, by decide⟩
  obtain ⟨T3, h3, X3, e3, W3, st3⟩ := stB X0 hx hZ e0 Ar2 (j := (0 : Int32)) hin2 (g := (mkF m 31 #[rv u0, iv (0 : Int32), rv u2, iv (0 : Int32), iv (2 : Int32), iv (0 : Int32), iv c0] [(.int (c0.toInt8.toInt32)), (.int (0 : Int32)), (.ref u2)])) rfl rfl (oD hby D41 16 rfl)
  have V3 : Arv Z h3 u2 kB .byte (2 : Int32) [(.int (own_by c0)), (.int d1)] (.int (0 : Int32)) := by have q_ := Arv.set Ar2 qq2 S2 N2_ H2 G2 (fits_nar_byte _) W3 0 rfl (Nat.le_of_ble_eq_true rfl); rw [own_by2 c0] at q_; exact q_
  have N4 := Fr.snoc X3 N0 g_u2
  have K5 : Keep h0 h3 [u2] := (Keep.refl h0 [u2]).wr W3 (Or.inl (List.mem_of_getElem? (i := 0) rfl))
  have f6 := (P_V_u0.other W3 neA)
  obtain ⟨cl7, Ar7, qq7, S7, N7_, H7, G7⟩ := id f6
  have hin7 : ¬ ((1 : Int32) < 0 ∨ cl7.slots.size ≤ ((1 : Int32)).toNatClampNeg) := inb_of S7 ⟨by decide, by decide⟩
  have hat7 : cl7.slots[((1 : Int32)).toNatClampNeg]? = some (.int c1) := H7.at hin7 rfl
  obtain ⟨cl8, Ar8, qq8, S8, N8_, H8, G8⟩ := id V3
  have hin8 : ¬ ((1 : Int32) < 0 ∨ cl8.slots.size ≤ ((1 : Int32)).toNatClampNeg) := inb_of S8 ⟨by decide, by decide⟩
  obtain ⟨T9, h9, X9, e9, W9, st9⟩ := stB X3 hx hZ e3 Ar8 (j := (1 : Int32)) hin8 (g := (mkF m 31 #[rv u0, iv (1 : Int32), rv u2, iv (1 : Int32), iv (2 : Int32), iv (1 : Int32), iv c1] [(.int (c1.toInt8.toInt32)), (.int (1 : Int32)), (.ref u2)])) rfl rfl (oD hby D41 16 rfl)
  have V9 : Arv Z h9 u2 kB .byte (2 : Int32) [(.int (own_by c0)), (.int (own_by c1))] (.int (0 : Int32)) := by have q_ := Arv.set Ar8 qq8 S8 N8_ H8 G8 (fits_nar_byte _) W9 1 rfl (Nat.le_of_ble_eq_true rfl); rw [own_by2 c1] at q_; exact q_
  have N10 := Fr.snoc X9 N4 g_u2
  have K11 : Keep h0 h9 [u2] := K5.wr W9 (Or.inl (List.mem_of_getElem? (i := 0) rfl))
  obtain ⟨fs, hr, hrun, hended, hW, hsame⟩ := X9.leave (v := some (.int (2 : Int32))) (fun h => by rw [Bd.returns] at h; cases h)
  refine ⟨_, _, pre0 _ ?_, hrun, hended, _, _, rfl, ?_, ⟨_, rfl⟩, hW, hsame.mono (by decide) (by decide)⟩
  · refine XS.iconst X0.here hx rfl (oD hby D41 0 rfl) ?_
    refine XS.istore X0.here hx rfl (oD hby D41 1 rfl) rfl rfl ?_
    refine XS.iload X0.here hx rfl (oD hby D41 2 rfl) rfl ?_
    refine XS.iload X0.here hx rfl (oD hby D41 3 rfl) rfl ?_
    refine XS.icmpNo X0.here hx rfl (oD hby D41 4 rfl) rfl (tlt (by decide : (0 : Int32) < (2 : Int32))).2.1 ?_
    refine XS.aloadN X0.here hx rfl (oD hby D41 5 rfl) rfl rfl ?_
    refine XS.iloadN X0.here hx rfl (oD hby D41 6 rfl) rfl ?_
    refine X0.caload hx (j := (0 : Int32)) (v := (.int c0)) (by rw [e0]; exact Ar1.1) (State.isArrayOf_alike hZ.alike Ar1.2.1) Ar1.2.2 hin1 hat1 (g := (mkF m 12 #[rv u0, iv (0 : Int32), rv u2, iv (0 : Int32), iv (2 : Int32), iv (0 : Int32), .unset] [(.int (0 : Int32)), (.ref u0)])) rfl rfl (oD hby D41 7 rfl) _ ?_
    refine XS.istore X0.here hx rfl (oD hby D41 8 rfl) rfl rfl ?_
    refine XS.iload X0.here hx rfl (oD hby D41 9 rfl) rfl ?_
    refine XS.sipush X0.here hx rfl (oD hby D41 10 rfl) ?_
    refine XS.icmpYes X0.here hx rfl (pc0 := 20) (pc' := 26) rfl (oD hby D41 11 rfl) rfl (flt hc0.2).2.2.2 (by decide) (by decide) ?_
    refine XS.aloadN X0.here hx rfl (oD hby D41 12 rfl) rfl rfl ?_
    refine XS.iloadN X0.here hx rfl (oD hby D41 13 rfl) rfl ?_
    refine XS.iload X0.here hx rfl (oD hby D41 14 rfl) rfl ?_
    refine XS.i2b X0.here hx rfl (oD hby D41 15 rfl) rfl ?_
    refine st3 _ ?_
    refine XS.iinc X3.here hx rfl (oD hby D41 17 rfl) rfl rfl ?_
    refine XS.iinc X3.here hx rfl (oD hby D41 18 rfl) rfl rfl ?_
    refine XS.iinc X3.here hx rfl (oD hby D41 19 rfl) rfl rfl ?_
    refine XS.goto X3.here hx rfl (pc0 := 41) (pc' := 3) rfl (oD hby D41 20 rfl) (by decide) (by decide) ?_
    refine XS.iload X3.here hx rfl (oD hby D41 2 rfl) rfl ?_
    refine XS.iload X3.here hx rfl (oD hby D41 3 rfl) rfl ?_
    show Steps _ _ _ (T3.setTop (mkF m 7 #[rv u0, iv (1 : Int32), rv u2, iv (1 : Int32), iv (2 : Int32), iv (1 : Int32), iv c0] [(.int (2 : Int32)), (.int (1 : Int32))])) _
    refine XS.icmpNo X3.here hx rfl (oD hby D41 4 rfl) rfl (tlt (by decide : (1 : Int32) < (2 : Int32))).2.1 ?_
    refine XS.aloadN X3.here hx rfl (oD hby D41 5 rfl) rfl rfl ?_
    refine XS.iloadN X3.here hx rfl (oD hby D41 6 rfl) rfl ?_
    refine X3.caload hx (j := (1 : Int32)) (v := (.int c1)) (by rw [e3]; exact Ar7.1) (State.isArrayOf_alike hZ.alike Ar7.2.1) Ar7.2.2 hin7 hat7 (g := (mkF m 12 #[rv u0, iv (1 : Int32), rv u2, iv (1 : Int32), iv (2 : Int32), iv (1 : Int32), iv c0] [(.int (1 : Int32)), (.ref u0)])) rfl rfl (oD hby D41 7 rfl) _ ?_
    refine XS.istore X3.here hx rfl (oD hby D41 8 rfl) rfl rfl ?_
    refine XS.iload X3.here hx rfl (oD hby D41 9 rfl) rfl ?_
    refine XS.sipush X3.here hx rfl (oD hby D41 10 rfl) ?_
    refine XS.icmpYes X3.here hx rfl (pc0 := 20) (pc' := 26) rfl (oD hby D41 11 rfl) rfl (flt hc1.2).2.2.2 (by decide) (by decide) ?_
    refine XS.aloadN X3.here hx rfl (oD hby D41 12 rfl) rfl rfl ?_
    refine XS.iloadN X3.here hx rfl (oD hby D41 13 rfl) rfl ?_
    refine XS.iload X3.here hx rfl (oD hby D41 14 rfl) rfl ?_
    refine XS.i2b X3.here hx rfl (oD hby D41 15 rfl) rfl ?_
    refine st9 _ ?_
    refine XS.iinc X9.here hx rfl (oD hby D41 17 rfl) rfl rfl ?_
    refine XS.iinc X9.here hx rfl (oD hby D41 18 rfl) rfl rfl ?_
    refine XS.iinc X9.here hx rfl (oD hby D41 19 rfl) rfl rfl ?_
    refine XS.goto X9.here hx rfl (pc0 := 41) (pc' := 3) rfl (oD hby D41 20 rfl) (by decide) (by decide) ?_
    refine XS.iload X9.here hx rfl (oD hby D41 2 rfl) rfl ?_
    refine XS.iload X9.here hx rfl (oD hby D41 3 rfl) rfl ?_
    refine XS.icmpYes X9.here hx rfl (pc0 := 7) (pc' := 44) rfl (oD hby D41 4 rfl) rfl (flt (by decide : ¬ ((2 : Int32) < (2 : Int32)))).2.1 (by decide) (by decide) ?_
    refine XS.iload X9.here hx rfl (oD hby D41 21 rfl) rfl ?_
    show Steps _ _ _ (T9.setTop (mkF m 46 #[rv u0, iv (2 : Int32), rv u2, iv (2 : Int32), iv (2 : Int32), iv (2 : Int32), iv c1] [(.int (2 : Int32))])) _
    exact retI X9 hx Bd.returns (oD hby D41 22 rfl) hr
  · show Q_rmC5_2 Z u0 u2 kA c0 c1 kB d0 d1 h0 n0 _ T9.heap _
    rw [e9]
    exact ⟨rfl, N10, K11, V9⟩

theorem ef_rmC3_2 (m : MethodId) (x0 : Addr) (x1 : Int32) (x2 : Int32) : entryFrame m #[(.ref x0), (.int x1), (.int x2)] 6 = mkF m 0 #[rv x0, iv x1, iv x2, .unset, .unset, .unset] [] := by first | (simp [entryFrame, mkF, argsToLocals, Value.category]; done) | rfl
def Q_rmC3_2 (Z : State) (u0 : Addr) (kA : ClassId) (c0 : Int32) (c1 : Int32) (h0 : Heap) (n0 : Nat) (v : Option Value) (h : Heap) (L : List Loc) : Prop := ∃ (t : Addr), ∃ (kt : ClassId), (v = (some (.ref t)) ∧ Fr n0 L ∧ Keep h0 h [] ∧ h0.size ≤ t ∧ Exa Z h t "[B" ∧ Arv Z h t kt .byte (2 : Int32) [(.int (own_by c0)), (.int (own_by c1))] (.int (0 : Int32)))
theorem rmC3_2 (l : Launch) (Z : State) (a0 : Array Value) (hw : own_W a0 Z) (ws : List Jvm.Cond) (u0 : Addr) (kA : ClassId) (c0 : Int32) (c1 : Int32) (h0 : Heap) (n0 : Nat) (Z0 : n0 ≤ h0.size) (P_V_u0 : Arv Z h0 u0 kA .char (2 : Int32) [(.int c0), (.int c1)] (.int (0 : Int32))) (hc0 : ¬ c0 < 0 ∧ ¬ (255 : Int32) < c0) (hc1 : ¬ c1 < 0 ∧ ¬ (255 : Int32) < c1) :
    own_MF l own_y31 (Jvm.Cond.code own_y31 jdk_52_method_16_code 6 (some (.array .byte))) ws ({ frames := 1, cells := 1, slots := 2, locals := 18 } : Room) #[(.ref u0), (.int (0 : Int32)), (.int (2 : Int32))] Z h0 (Q_rmC3_2 Z u0 kA c0 c1 h0 n0) := by
  refine own_enter (n0 := n0) (plainFor_of_name pn_41) (C := "java/lang/StringUTF16") rfl (fun m => ef_rmC3_2 m u0 (0 : Int32) (2 : Int32)) fun p e s m below meth c s₁ Bd hx hby hml hown hnm hZ hh X0 e0 N0 pre0 => ?_
  obtain ⟨T1, h1, k1, X1, e1, E1, A1, Q1, st1⟩ := newPE X0 hx hZ (oG hw 15 rfl) e0 (g := (mkF m 1 #[rv u0, iv (0 : Int32), iv (2 : Int32), .unset, .unset, .unset] [(.int (2 : Int32))])) rfl (oD hby D40 1 rfl) rfl (by decide) (cap := 2) (by decide) (by decide) (by decide) (by decide) (ad := "[B") rfl
  obtain ⟨b1, g1⟩ : ∃ z, z = h0.size := ⟨_, rfl⟩
  rw [← g1] at A1 st1 Q1
  have ne2 : u0 ≠ b1 := Nat.ne_of_lt (Nat.lt_of_lt_of_le P_V_u0.lt (Nat.le_of_eq g1.symm))
  have o1 : n0 ≤ b1 := Nat.le_trans Z0 (Nat.le_of_eq g1.symm)
  have z1 : h0.size ≤ b1 := Nat.le_trans (Keep.refl h0 []).1 (Nat.le_of_eq g1.symm)
  have K1 : Keep h0 h1 [] := (Keep.refl h0 []).ext E1
  have V1 : Arv Z h1 b1 k1 .byte (2 : Int32) [(.int (0 : Int32)), (.int (0 : Int32))] (.int (0 : Int32)) := (Arv.new A1 (by decide)).pad (pad_rep [] (.int (0 : Int32)) 2)
  have f3 := (P_V_u0.ext E1)
  have f4 := (Nat.le_trans Z0 E1.1)
  obtain ⟨_, T5, L5, X5, hQ5, st5⟩ := own_cS X1 hx hown hZ (oG hw 240 rfl) (oG hw 241 rfl) (oG hw 238 rfl) (oG hw 242 rfl) (by decide) (rmC5_2 l Z a0 hw [] u0 b1 kA c0 c1 k1 (0 : Int32) (0 : Int32) h1 n0 f4 f3 V1 ne2 hc0 hc1 o1) (W := 0) (by decide) (by decide) (g := (mkF m 9 #[rv u0, iv (0 : Int32), iv (2 : Int32), rv b1, .unset, .unset] [(.int (2 : Int32)), (.int (0 : Int32)), (.ref b1), (.int (0 : Int32)), (.ref u0)])) rfl (by rw [hml]; rfl) (argsL := [(.ref u0), (.int (0 : Int32)), (.ref b1), (.int (0 : Int32)), (.int (2 : Int32))]) (rest := []) (lenOf pd19 rfl) rfl (own_ww rfl) (oD hby D40 8 rfl) e1 rfl (by decide) (by decide)
  obtain ⟨rfl, N5q, K5, f6⟩ := hQ5
  have KK5 : Keep h0 T5.heap [] := Keep.trans K1 K5 (allS (Or.inr z1) all0)
  have N5 := Fr.app N0 N5q
  obtain ⟨fs, hr, hrun, hended, hW, hsame⟩ := X5.leave (v := some (.ref b1)) (fun h => by rw [Bd.returns] at h; cases h)
  have f7 := (Q1.keep K5)
  refine ⟨_, _, pre0 _ ?_, hrun, hended, _, _, rfl, ?_, ⟨_, rfl⟩, hW, hsame.mono (by decide) (by decide)⟩
  · refine XS.iloadN X0.here hx rfl (oD hby D40 0 rfl) rfl ?_
    refine st1 _ ?_
    refine XS.astoreN X1.here hx rfl (oD hby D40 2 rfl) rfl rfl rfl ?_
    refine XS.aloadN X1.here hx rfl (oD hby D40 3 rfl) rfl rfl ?_
    refine XS.iloadN X1.here hx rfl (oD hby D40 4 rfl) rfl ?_
    refine XS.aloadN X1.here hx rfl (oD hby D40 5 rfl) rfl rfl ?_
    refine XS.iconst X1.here hx rfl (oD hby D40 6 rfl) ?_
    refine XS.iloadN X1.here hx rfl (oD hby D40 7 rfl) rfl ?_
    refine st5 _ ?_
    refine XS.istore X5.here hx rfl (oD hby D40 9 rfl) rfl rfl ?_
    refine XS.iload X5.here hx rfl (oD hby D40 10 rfl) rfl ?_
    refine XS.iloadN X5.here hx rfl (oD hby D40 11 rfl) rfl ?_
    refine XS.icmpYes X5.here hx rfl (pc0 := 17) (pc' := 57) rfl (oD hby D40 12 rfl) rfl (teq (by decide : (2 : Int32) = (2 : Int32))).1 (by decide) (by decide) ?_
    refine XS.aloadN X5.here hx rfl (oD hby D40 13 rfl) rfl rfl ?_
    show Steps _ _ _ (T5.setTop (mkF m 58 #[rv u0, iv (0 : Int32), iv (2 : Int32), rv b1, iv (2 : Int32), .unset] [(.ref b1)])) _
    exact retOut X5 hx Bd.returns rfl (Or.inr (Or.inr (Or.inr (Or.inr ⟨rfl, rfl, rfl⟩)))) (oD hby D40 14 rfl) hr
  · show Q_rmC3_2 Z u0 kA c0 c1 h0 n0 _ T5.heap _
    exact ⟨b1, k1, rfl, N5, KK5, z1, f7, f6⟩

theorem ef_rmCF2 (m : MethodId) (x0 : Addr) (x1 : Int32) : entryFrame m #[(.ref x0), (.int x1)] 2 = mkF m 0 #[rv x0, iv x1] [] := by first | (simp [entryFrame, mkF, argsToLocals, Value.category]; done) | rfl
theorem rmCF2 (l : Launch) (Z : State) (a0 : Array Value) (hw : own_W a0 Z) (ws : List Jvm.Cond) (u0 : Addr) (kt : ClassId) (vs : List Value) (h0 : Heap) (n0 : Nat) (Z0 : n0 ≤ h0.size) (P_G_u0 : Arv Z h0 u0 kt .byte (2 : Int32) vs (.int 0)) :
    own_MF l own_y32 (Jvm.Cond.code own_y32 jdk_52_method_15_code 2 (some .byte)) ws ({ frames := 0, cells := 0, slots := 0, locals := 0 } : Room) #[(.ref u0), (.int (2 : Int32))] Z h0 (own_QP (some (.int (0 : Int32))) h0 n0) := by
  refine own_enter (n0 := n0) (plainFor_of_name pn_41) (C := "java/lang/StringUTF16") rfl (fun m => ef_rmCF2 m u0 (2 : Int32)) fun p e s m below meth c s₁ Bd hx hby hml hown hnm hZ hh X0 e0 N0 pre0 => ?_
  obtain ⟨cl1, Ar1, qq1, S1, N1_, H1, G1⟩ := id P_G_u0
  obtain ⟨fs, hr, hrun, hended, hW, hsame⟩ := X0.leave (v := some (.int (0 : Int32))) (fun h => by rw [Bd.returns] at h; cases h)
  refine ⟨_, _, pre0 _ ?_, hrun, hended, _, _, rfl, ?_, ⟨_, rfl⟩, hW, hsame.mono (by decide) (by decide)⟩
  · refine XS.iloadN X0.here hx rfl (oD hby D42 0 rfl) rfl ?_
    refine XS.aloadN X0.here hx rfl (oD hby D42 1 rfl) rfl rfl ?_
    refine X0.arraylength hx (by rw [e0]; exact Ar1.1) (State.isArrayOf_alike hZ.alike Ar1.2.1) (g := (mkF m 2 #[rv u0, iv (2 : Int32)] [(.ref u0), (.int (2 : Int32))])) rfl rfl (oD hby D42 2 rfl) _ ?_
    rw [len_of S1 N1_]
    refine XS.isub X0.here hx rfl (oD hby D42 3 rfl) rfl ?_
    refine XS.bipush X0.here hx rfl (oD hby D42 4 rfl) ?_
    refine XS.iushr X0.here hx rfl (oD hby D42 5 rfl) rfl ?_
    show Steps _ _ _ (s₁.setTop (mkF m 7 #[rv u0, iv (2 : Int32)] [(.int (((0 : Int32).toUInt32 >>> ((31 : Int32) &&& 31).toUInt32).toInt32))])) _
    rw [(by decide : (((0 : Int32).toUInt32 >>> ((31 : Int32) &&& 31).toUInt32).toInt32) = (0 : Int32))]
    refine XS.i2b X0.here hx rfl (oD hby D42 6 rfl) rfl ?_
    show Steps _ _ _ (s₁.setTop (mkF m 8 #[rv u0, iv (2 : Int32)] [(.int ((0 : Int32).toInt8.toInt32))])) _
    rw [(by decide : ((0 : Int32).toInt8.toInt32) = (0 : Int32))]
    show Steps _ _ _ (s₁.setTop (mkF m 8 #[rv u0, iv (2 : Int32)] [(.int (0 : Int32))])) _
    exact retN X0 hx (t := .byte) Bd.returns (by simp) (oD hby D42 7 rfl) hr
  · show own_QP (some (.int (0 : Int32))) h0 n0 _ s₁.heap _
    rw [e0]
    exact ⟨rfl, N0, rfl⟩

theorem ef_rmI4_2 (m : MethodId) (x0 : Addr) (x1 : Addr) (x2 : Int32) (x3 : Int32) : entryFrame m #[(.ref x0), (.ref x1), (.int x2), (.int x3), .null] 6 = mkF m 0 #[rv x0, rv x1, iv x2, iv x3, .val .null, .unset] [] := by first | (simp [entryFrame, mkF, argsToLocals, Value.category]; done) | rfl
def Q_rmI4_2 (Z : State) (u0 : Addr) (u1 : Addr) (kA : ClassId) (c0 : Int32) (c1 : Int32) (zC : Int32) (h0 : Heap) (n0 : Nat) (v : Option Value) (h : Heap) (L : List Loc) : Prop := ∃ (t : Addr), ∃ (kt : ClassId), (v = none ∧ Fr n0 L ∧ Keep h0 h [u0] ∧ h0.size ≤ t ∧ Exa Z h u0 "java/lang/String" ∧ Fld Z h u0 "java/lang/String" "value" "[B" (.ref t) ∧ Fld Z h u0 "java/lang/String" "coder" "B" (.int (0 : Int32)) ∧ Exa Z h t "[B" ∧ Arv Z h t kt .byte (2 : Int32) [(.int (own_by c0)), (.int (own_by c1))] (.int (0 : Int32)))
theorem rmI4_2 (l : Launch) (Z : State) (a0 : Array Value) (hw : own_W a0 Z) (ws : List Jvm.Cond) (u0 : Addr) (u1 : Addr) (kA : ClassId) (c0 : Int32) (c1 : Int32) (zC : Int32) (h0 : Heap) (n0 : Nat) (Z0 : n0 ≤ h0.size) (P_E_u0 : Exa Z h0 u0 "java/lang/String") (P_F_u0_String_value : Fld Z h0 u0 "java/lang/String" "value" "[B" .null) (P_F_u0_String_coder : Fld Z h0 u0 "java/lang/String" "coder" "B" (.int (0 : Int32))) (P_V_u1 : Arv Z h0 u1 kA .char (2 : Int32) [(.int c0), (.int c1)] (.int (0 : Int32))) (neA : u0 ≠ u1) (hc0 : ¬ c0 < 0 ∧ ¬ (255 : Int32) < c0) (hc1 : ¬ c1 < 0 ∧ ¬ (255 : Int32) < c1) (P_S_String_COMPACT_STRINGS : Sta Z h0 "java/lang/String" "COMPACT_STRINGS" "Z" (.int zC)) (hz : ¬ (zC = (0 : Int32))) (g_u0 : n0 ≤ u0) :
    own_MF l own_y33 (Jvm.Cond.code own_y33 jdk_42_method_149_code 6 none) ws ({ frames := 2, cells := 1, slots := 2, locals := 35 } : Room) #[(.ref u0), (.ref u1), (.int (0 : Int32)), (.int (2 : Int32)), .null] Z h0 (Q_rmI4_2 Z u0 u1 kA c0 c1 zC h0 n0) := by
  refine own_enter (n0 := n0) (plainFor_of_name pn_12) (C := "java/lang/String") rfl (fun m => ef_rmI4_2 m u0 u1 (0 : Int32) (2 : Int32)) fun p e s m below meth c s₁ Bd hx hby hml hown hnm hZ hh X0 e0 N0 pre0 => ?_
  obtain ⟨T1, X1, e1, st1⟩ := initO X0 hx hZ hown (oG hw 11 rfl) (oG hw 12 rfl) (oG hw 13 rfl) e0 (g := (mkF m 1 #[rv u0, rv u1, iv (0 : Int32), iv (2 : Int32), .val .null, .unset] [(.ref u0)])) rfl (by rw [hml]; rfl) rfl (oD hby D2 1 rfl) (by decide) (W := 0) (by show 2 * 0 + _ ≤ _; exact Nat.le_of_eq rfl) (by decide)
  obtain ⟨T2, X2, e2, st2⟩ := getS2 X1 hx hZ hown (host := "") (Or.inl (oG hw 93 rfl)) Via.refl e1 P_S_String_COMPACT_STRINGS (g := (mkF m 27 #[rv u0, rv u1, iv (0 : Int32), iv (2 : Int32), .val .null, .unset] [])) rfl (oD hby D2 4 rfl)
  obtain ⟨_, T3, L3, X3, hQ3, st3⟩ := own_cS X2 hx hown hZ (oG hw 236 rfl) (oG hw 237 rfl) (oG hw 238 rfl) (oG hw 239 rfl) (by decide) (rmC3_2 l Z a0 hw [] u1 kA c0 c1 h0 n0 Z0 P_V_u1 hc0 hc1) (W := 0) (by decide) (by decide) (g := (mkF m 36 #[rv u0, rv u1, iv (0 : Int32), iv (2 : Int32), .val .null, .unset] [(.int (2 : Int32)), (.int (0 : Int32)), (.ref u1)])) rfl (by rw [hml]; rfl) (argsL := [(.ref u1), (.int (0 : Int32)), (.int (2 : Int32))]) (rest := []) (lenOf pd20 rfl) rfl (own_ww rfl) (oD hby D2 9 rfl) e2 rfl (by decide) (by decide)
  obtain ⟨t_3, kt_3, rfl, N3q, K3, sx3_0, f4, f5⟩ := hQ3
  have ot_3 : n0 ≤ t_3 := Nat.le_trans Z0 sx3_0
  have zt_3 : h0.size ≤ t_3 := Nat.le_trans (Keep.refl h0 [u0]).1 sx3_0
  have ne6 : u0 ≠ t_3 := Nat.ne_of_lt (Nat.lt_of_lt_of_le P_E_u0.lt sx3_0)
  have ne7 : u1 ≠ t_3 := Nat.ne_of_lt (Nat.lt_of_lt_of_le P_V_u1.lt sx3_0)
  have KK3 : Keep h0 T3.heap [u0] := Keep.trans (Keep.refl h0 [u0]) K3 all0
  have N3 := Fr.app N0 N3q
  have f8 := (Nat.le_trans Z0 K3.1)
  obtain ⟨_, T9, L9, X9, hQ9, st9⟩ := own_cS X3 hx hown hZ (oG hw 243 rfl) (oG hw 244 rfl) (oG hw 238 rfl) (oG hw 245 rfl) (by decide) (rmCF2 l Z a0 hw [] t_3 kt_3 [(.int (own_by c0)), (.int (own_by c1))] T3.heap n0 f8 f5) (W := 1) (by decide) (by decide) (g := (mkF m 45 #[rv u0, rv u1, iv (0 : Int32), iv (2 : Int32), .val .null, rv t_3] [(.int (2 : Int32)), (.ref t_3), (.ref u0)])) rfl (by rw [hml]; rfl) (argsL := [(.ref t_3), (.int (2 : Int32))]) (rest := [(.ref u0)]) (lenOf pd21 rfl) rfl (own_ww rfl) (oD hby D2 14 rfl) rfl rfl (by decide) (by decide)
  obtain ⟨rfl, N9q, e9⟩ := hQ9
  have N9 := Fr.app N3 N9q
  have f10 := (P_E_u0.keep K3)
  have f11 := (P_F_u0_String_coder.keep K3 nin0)
  obtain ⟨T12, h12, X12, e12, W12, st12⟩ := putFN X9 hx hZ hown (oG hw 21 rfl) Via.refl e9 f11 f10 (Or.inr ⟨(oG hw 17 rfl), rfl, hnm⟩) (oG hw 2 rfl) (ty := .byte) (v' := (.int (0 : Int32))) (by decide) rfl rfl (g := (mkF m 48 #[rv u0, rv u1, iv (0 : Int32), iv (2 : Int32), .val .null, rv t_3] [(.int (0 : Int32)), (.ref u0)])) rfl rfl (oD hby D2 15 rfl)
  have f12_ : Fld Z h12 u0 "java/lang/String" "coder" "B" (.int (0 : Int32)) := f11.same W12
  have N13 := Fr.snoc X12 N9 g_u0
  have K14 : Keep h0 h12 [u0] := KK3.wr W12 (Or.inl (List.mem_of_getElem? (i := 0) rfl))
  have f15 := (f10.wr W12)
  have f16 := ((P_F_u0_String_value.keep K3 nin0).other W12 (Or.inr (slot_ne (Or.inr (oG hw 16 rfl)) (Or.inr (oG hw 17 rfl)) (by decide) (t := (.array .byte)) (t' := .byte) (by decide) (by decide))))
  obtain ⟨T17, h17, X17, e17, W17, st17⟩ := putF X12 hx hZ hown (host := "") (Or.inl (oG hw 20 rfl)) Via.refl e12 f16 f15 (Or.inr ⟨(oG hw 16 rfl), rfl, hnm⟩) (oG hw 2 rfl) (ty := (.array .byte)) (by decide) rfl rfl (g := (mkF m 54 #[rv u0, rv u1, iv (0 : Int32), iv (2 : Int32), .val .null, rv t_3] [(.ref t_3), (.ref u0)])) rfl rfl (oD hby D2 18 rfl)
  have f17_ : Fld Z h17 u0 "java/lang/String" "value" "[B" (.ref t_3) := f16.same W17
  have N18 := Fr.snoc X17 N13 g_u0
  have K19 : Keep h0 h17 [u0] := K14.wr W17 (Or.inl (List.mem_of_getElem? (i := 0) rfl))
  obtain ⟨fs, hr, hrun, hended, hW, hsame⟩ := X17.leave (v := none) (fun _ => rfl)
  have f20 := (f15.wr W17)
  have f21 := (f12_.other W17 (Or.inr (slot_ne (Or.inr (oG hw 17 rfl)) (Or.inr (oG hw 16 rfl)) (by decide) (t := .byte) (t' := (.array .byte)) (by decide) (by decide))))
  have f22 := ((f4.wr W12).wr W17)
  have f23 := ((f5.other W12 (Ne.symm ne6)).other W17 (Ne.symm ne6))
  refine ⟨_, _, pre0 _ ?_, hrun, hended, _, _, rfl, ?_, ⟨_, rfl⟩, hW, hsame.mono (by decide) (by decide)⟩
  · refine XS.aloadN X0.here hx rfl (oD hby D2 0 rfl) rfl rfl ?_
    refine st1 _ ?_
    refine XS.iloadN X1.here hx rfl (oD hby D2 2 rfl) rfl ?_
    refine XS.ifYes X1.here hx rfl (pc0 := 5) (pc' := 27) rfl (oD hby D2 3 rfl) rfl ((if0 _ _).trans (feq (by decide : ¬ ((2 : Int32) = (0 : Int32)))).2) (by decide) (by decide) ?_
    refine st2 _ ?_
    refine XS.ifNo X2.here hx rfl (oD hby D2 5 rfl) rfl ((if0 _ _).trans (feq hz).1) ?_
    refine XS.aloadN X2.here hx rfl (oD hby D2 6 rfl) rfl rfl ?_
    refine XS.iloadN X2.here hx rfl (oD hby D2 7 rfl) rfl ?_
    refine XS.iloadN X2.here hx rfl (oD hby D2 8 rfl) rfl ?_
    refine st3 _ ?_
    refine XS.astore X3.here hx rfl (oD hby D2 10 rfl) rfl rfl rfl ?_
    refine XS.aloadN X3.here hx rfl (oD hby D2 11 rfl) rfl rfl ?_
    refine XS.aload X3.here hx rfl (oD hby D2 12 rfl) rfl rfl ?_
    refine XS.iloadN X3.here hx rfl (oD hby D2 13 rfl) rfl ?_
    refine st9 _ ?_
    refine st12 _ ?_
    refine XS.aloadN X12.here hx rfl (oD hby D2 16 rfl) rfl rfl ?_
    refine XS.aload X12.here hx rfl (oD hby D2 17 rfl) rfl rfl ?_
    refine st17 _ ?_
    show Steps _ _ _ (T17.setTop (mkF m 57 #[rv u0, rv u1, iv (0 : Int32), iv (2 : Int32), .val .null, rv t_3] [])) _
    exact X17.returnOut hx Bd.returns (oD hby D2 19 rfl) hr
  · show Q_rmI4_2 Z u0 u1 kA c0 c1 zC h0 n0 _ T17.heap _
    rw [e17]
    exact ⟨t_3, kt_3, rfl, N18, K19, zt_3, f20, f17_, f21, f22, f23⟩

theorem ef_rmI1_2 (m : MethodId) (x0 : Addr) (x1 : Addr) : entryFrame m #[(.ref x0), (.ref x1)] 2 = mkF m 0 #[rv x0, rv x1] [] := by first | (simp [entryFrame, mkF, argsToLocals, Value.category]; done) | rfl
def Q_rmI1_2 (Z : State) (u0 : Addr) (u1 : Addr) (kA : ClassId) (c0 : Int32) (c1 : Int32) (zC : Int32) (h0 : Heap) (n0 : Nat) (v : Option Value) (h : Heap) (L : List Loc) : Prop := ∃ (t : Addr), ∃ (kt : ClassId), (v = none ∧ Fr n0 L ∧ Keep h0 h [u0] ∧ h0.size ≤ t ∧ Exa Z h u0 "java/lang/String" ∧ Fld Z h u0 "java/lang/String" "value" "[B" (.ref t) ∧ Fld Z h u0 "java/lang/String" "coder" "B" (.int (0 : Int32)) ∧ Exa Z h t "[B" ∧ Arv Z h t kt .byte (2 : Int32) [(.int (own_by c0)), (.int (own_by c1))] (.int (0 : Int32)))
theorem rmI1_2 (l : Launch) (Z : State) (a0 : Array Value) (hw : own_W a0 Z) (ws : List Jvm.Cond) (u0 : Addr) (u1 : Addr) (kA : ClassId) (c0 : Int32) (c1 : Int32) (zC : Int32) (h0 : Heap) (n0 : Nat) (Z0 : n0 ≤ h0.size) (P_E_u0 : Exa Z h0 u0 "java/lang/String") (P_F_u0_String_value : Fld Z h0 u0 "java/lang/String" "value" "[B" .null) (P_F_u0_String_coder : Fld Z h0 u0 "java/lang/String" "coder" "B" (.int (0 : Int32))) (P_V_u1 : Arv Z h0 u1 kA .char (2 : Int32) [(.int c0), (.int c1)] (.int (0 : Int32))) (neA : u0 ≠ u1) (hc0 : ¬ c0 < 0 ∧ ¬ (255 : Int32) < c0) (hc1 : ¬ c1 < 0 ∧ ¬ (255 : Int32) < c1) (P_S_String_COMPACT_STRINGS : Sta Z h0 "java/lang/String" "COMPACT_STRINGS" "Z" (.int zC)) (hz : ¬ (zC = (0 : Int32))) (g_u0 : n0 ≤ u0) :
    own_MF l own_y34 (Jvm.Cond.code own_y34 jdk_42_method_3_code 2 none) ws ({ frames := 3, cells := 1, slots := 2, locals := 52 } : Room) #[(.ref u0), (.ref u1)] Z h0 (Q_rmI1_2 Z u0 u1 kA c0 c1 zC h0 n0) := by
  refine own_enter (n0 := n0) (plainFor_of_name pn_12) (C := "java/lang/String") rfl (fun m => ef_rmI1_2 m u0 u1) fun p e s m below meth c s₁ Bd hx hby hml hown hnm hZ hh X0 e0 N0 pre0 => ?_
  obtain ⟨cl1, Ar1, qq1, S1, N1_, H1, G1⟩ := id P_V_u1
  obtain ⟨_, T2, L2, X2, hQ2, st2⟩ := own_cI X0 hx rfl hown hZ (oG hw 7 rfl) (oG hw 8 rfl) (oG hw 3 rfl) (oG hw 10 rfl) (by decide) (rmI4_2 l Z a0 hw [] u0 u1 kA c0 c1 zC h0 n0 Z0 P_E_u0 P_F_u0_String_value P_F_u0_String_coder P_V_u1 neA hc0 hc1 P_S_String_COMPACT_STRINGS hz g_u0) (W := 0) (by decide) (by decide) (g := (mkF m 6 #[rv u0, rv u1] [.null, (.int (2 : Int32)), (.int (0 : Int32)), (.ref u1), (.ref u0)])) rfl (by rw [hml]; rfl) (a := u0) (argsL := [(.ref u1), (.int (0 : Int32)), (.int (2 : Int32)), .null]) (rest := []) (lenOf pd22 rfl) rfl (own_ww rfl) (oD hby D1 6 rfl) e0 rfl (by decide) (by decide)
  obtain ⟨t_2, kt_2, rfl, N2q, K2, sx2_0, f3, f4, f5, f6, f7⟩ := hQ2
  have ot_2 : n0 ≤ t_2 := Nat.le_trans Z0 sx2_0
  have zt_2 : h0.size ≤ t_2 := Nat.le_trans (Keep.refl h0 [u0]).1 sx2_0
  have ne8 : u0 ≠ t_2 := Nat.ne_of_lt (Nat.lt_of_lt_of_le P_E_u0.lt sx2_0)
  have ne9 : u1 ≠ t_2 := Nat.ne_of_lt (Nat.lt_of_lt_of_le P_V_u1.lt sx2_0)
  have KK2 : Keep h0 T2.heap [u0] := Keep.trans (Keep.refl h0 [u0]) K2 (allS (Or.inl (List.mem_of_getElem? (i := 0) rfl)) all0)
  have N2 := Fr.app N0 N2q
  obtain ⟨fs, hr, hrun, hended, hW, hsame⟩ := X2.leave (v := none) (fun _ => rfl)
  refine ⟨_, _, pre0 _ ?_, hrun, hended, _, _, rfl, ?_, ⟨_, rfl⟩, hW, hsame.mono (by decide) (by decide)⟩
  · refine XS.aloadN X0.here hx rfl (oD hby D1 0 rfl) rfl rfl ?_
    refine XS.aloadN X0.here hx rfl (oD hby D1 1 rfl) rfl rfl ?_
    refine XS.iconst X0.here hx rfl (oD hby D1 2 rfl) ?_
    refine XS.aloadN X0.here hx rfl (oD hby D1 3 rfl) rfl rfl ?_
    refine X0.arraylength hx (by rw [e0]; exact Ar1.1) (State.isArrayOf_alike hZ.alike Ar1.2.1) (g := (mkF m 4 #[rv u0, rv u1] [(.ref u1), (.int (0 : Int32)), (.ref u1), (.ref u0)])) rfl rfl (oD hby D1 4 rfl) _ ?_
    rw [len_of S1 N1_]
    refine XS.aconstNull X0.here hx rfl (oD hby D1 5 rfl) ?_
    refine st2 _ ?_
    show Steps _ _ _ (T2.setTop (mkF m 9 #[rv u0, rv u1] [])) _
    exact X2.returnOut hx Bd.returns (oD hby D1 7 rfl) hr
  · show Q_rmI1_2 Z u0 u1 kA c0 c1 zC h0 n0 _ T2.heap _
    exact ⟨t_2, kt_2, rfl, N2, KK2, zt_2, f3, f4, f5, f6, f7⟩

theorem ef_rmC5_3 (m : MethodId) (x0 : Addr) (x1 : Int32) (x2 : Addr) (x3 : Int32) (x4 : Int32) : entryFrame m #[(.ref x0), (.int x1), (.ref x2), (.int x3), (.int x4)] 7 = mkF m 0 #[rv x0, iv x1, rv x2, iv x3, iv x4, .unset, .unset] [] := by first | (simp [entryFrame, mkF, argsToLocals, Value.category]; done) | rfl
def Q_rmC5_3 (Z : State) (u0 : Addr) (u2 : Addr) (kA : ClassId) (c0 : Int32) (c1 : Int32) (c2 : Int32) (kB : ClassId) (d0 : Int32) (d1 : Int32) (d2 : Int32) (h0 : Heap) (n0 : Nat) (v : Option Value) (h : Heap) (L : List Loc) : Prop := (v = (some (.int (3 : Int32))) ∧ Fr n0 L ∧ Keep h0 h [u2] ∧ Arv Z h u2 kB .byte (3 : Int32) [(.int (own_by c0)), (.int (own_by c1)), (.int (own_by c2))] (.int (0 : Int32)))
theorem rmC5_3 (l : Launch) (Z : State) (a0 : Array Value) (hw : own_W a0 Z) (ws : List Jvm.Cond) (u0 : Addr) (u2 : Addr) (kA : ClassId) (c0 : Int32) (c1 : Int32) (c2 : Int32) (kB : ClassId) (d0 : Int32) (d1 : Int32) (d2 : Int32) (h0 : Heap) (n0 : Nat) (Z0 : n0 ≤ h0.size) (P_V_u0 : Arv Z h0 u0 kA .char (3 : Int32) [(.int c0), (.int c1), (.int c2)] (.int (0 : Int32))) (P_V_u2 : Arv Z h0 u2 kB .byte (3 : Int32) [(.int d0), (.int d1), (.int d2)] (.int (0 : Int32))) (neA : u0 ≠ u2) (hc0 : ¬ c0 < 0 ∧ ¬ (255 : Int32) < c0) (hc1 : ¬ c1 < 0 ∧ ¬ (255 : Int32) < c1) (hc2 : ¬ c2 < 0 ∧ ¬ (255 : Int32) < c2) (g_u2 : n0 ≤ u2) :
    own_MF l own_y30 (Jvm.Cond.code own_y30 jdk_52_method_21_code 7 (some .int)) ws ({ frames := 0, cells := 0, slots := 0, locals := 0 } : Room) #[(.ref u0), (.int (0 : Int32)), (.ref u2), (.int (0 : Int32)), (.int (3 : Int32))] Z h0 (Q_rmC5_3 Z u0 u2 kA c0 c1 c2 kB d0 d1 d2 h0 n0) := by
  refine own_enter (n0 := n0) (plainFor_of_name pn_41) (C := "java/lang/StringUTF16") rfl (fun m => ef_rmC5_3 m u0 (0 : Int32) u2 (0 : Int32) (3 : Int32)) fun p e s m below meth c s₁ Bd hx hby hml hown hnm hZ hh X0 e0 N0 pre0 => ?_
  obtain ⟨cl1, Ar1, qq1, S1, N1_, H1, G1⟩ := id P_V_u0
  have hin1 : ¬ ((0 : Int32) < 0 ∨ cl1.slots.size ≤ ((0 : Int32)).toNatClampNeg) := inb_of S1 ⟨by decide, by decide⟩
  have hat1 : cl1.slots[((0 : Int32)).toNatClampNeg]? = some (.int c0) := H1.at hin1 rfl
  obtain ⟨cl2, Ar2, qq2, S2, N2_, H2, G2⟩ := id P_V_u2
  have hin2 : ¬ ((0 : Int32) < 0 ∨ cl2.slots.size ≤ ((0 : Int32)).toNatClampNeg) := inb_of S2 ⟨by decide, by decide⟩
  obtain ⟨T3, h3, X3, e3, W3, st3⟩ := stB X0 hx hZ e0 Ar2 (j := (0 : Int32)) hin2 (g := (mkF m 31 #[rv u0, iv (0 : Int32), rv u2, iv (0 : Int32), iv (3 : Int32), iv (0 : Int32), iv c0] [(.int (c0.toInt8.toInt32)), (.int (0 : Int32)), (.ref u2)])) rfl rfl (oD hby D41 16 rfl)
  have V3 : Arv Z h3 u2 kB .byte (3 : Int32) [(.int (own_by c0)), (.int d1), (.int d2)] (.int (0 : Int32)) := by have q_ := Arv.set Ar2 qq2 S2 N2_ H2 G2 (fits_nar_byte _) W3 0 rfl (Nat.le_of_ble_eq_true rfl); rw [own_by2 c0] at q_; exact q_
  have N4 := Fr.snoc X3 N0 g_u2
  have K5 : Keep h0 h3 [u2] := (Keep.refl h0 [u2]).wr W3 (Or.inl (List.mem_of_getElem? (i := 0) rfl))
  have f6 := (P_V_u0.other W3 neA)
  obtain ⟨cl7, Ar7, qq7, S7, N7_, H7, G7⟩ := id f6
  have hin7 : ¬ ((1 : Int32) < 0 ∨ cl7.slots.size ≤ ((1 : Int32)).toNatClampNeg) := inb_of S7 ⟨by decide, by decide⟩
  have hat7 : cl7.slots[((1 : Int32)).toNatClampNeg]? = some (.int c1) := H7.at hin7 rfl
  obtain ⟨cl8, Ar8, qq8, S8, N8_, H8, G8⟩ := id V3
  have hin8 : ¬ ((1 : Int32) < 0 ∨ cl8.slots.size ≤ ((1 : Int32)).toNatClampNeg) := inb_of S8 ⟨by decide, by decide⟩
  obtain ⟨T9, h9, X9, e9, W9, st9⟩ := stB X3 hx hZ e3 Ar8 (j := (1 : Int32)) hin8 (g := (mkF m 31 #[rv u0, iv (1 : Int32), rv u2, iv (1 : Int32), iv (3 : Int32), iv (1 : Int32), iv c1] [(.int (c1.toInt8.toInt32)), (.int (1 : Int32)), (.ref u2)])) rfl rfl (oD hby D41 16 rfl)
  have V9 : Arv Z h9 u2 kB .byte (3 : Int32) [(.int (own_by c0)), (.int (own_by c1)), (.int d2)] (.int (0 : Int32)) := by have q_ := Arv.set Ar8 qq8 S8 N8_ H8 G8 (fits_nar_byte _) W9 1 rfl (Nat.le_of_ble_eq_true rfl); rw [own_by2 c1] at q_; exact q_
  have N10 := Fr.snoc X9 N4 g_u2
  have K11 : Keep h0 h9 [u2] := K5.wr W9 (Or.inl (List.mem_of_getElem? (i := 0) rfl))
  have f12 := (f6.other W9 neA)
  obtain ⟨cl13, Ar13, qq13, S13, N13_, H13, G13⟩ := id f12
  have hin13 : ¬ ((2 : Int32) < 0 ∨ cl13.slots.size ≤ ((2 : Int32)).toNatClampNeg) := inb_of S13 ⟨by decide, by decide⟩
  have hat13 : cl13.slots[((2 : Int32)).toNatClampNeg]? = some (.int c2) := H13.at hin13 rfl
  obtain ⟨cl14, Ar14, qq14, S14, N14_, H14, G14⟩ := id V9
  have hin14 : ¬ ((2 : Int32) < 0 ∨ cl14.slots.size ≤ ((2 : Int32)).toNatClampNeg) := inb_of S14 ⟨by decide, by decide⟩
  obtain ⟨T15, h15, X15, e15, W15, st15⟩ := stB X9 hx hZ e9 Ar14 (j := (2 : Int32)) hin14 (g := (mkF m 31 #[rv u0, iv (2 : Int32), rv u2, iv (2 : Int32), iv (3 : Int32), iv (2 : Int32), iv c2] [(.int (c2.toInt8.toInt32)), (.int (2 : Int32)), (.ref u2)])) rfl rfl (oD hby D41 16 rfl)
  have V15 : Arv Z h15 u2 kB .byte (3 : Int32) [(.int (own_by c0)), (.int (own_by c1)), (.int (own_by c2))] (.int (0 : Int32)) := by have q_ := Arv.set Ar14 qq14 S14 N14_ H14 G14 (fits_nar_byte _) W15 2 rfl (Nat.le_of_ble_eq_true rfl); rw [own_by2 c2] at q_; exact q_
  have N16 := Fr.snoc X15 N10 g_u2
  have K17 : Keep h0 h15 [u2] := K11.wr W15 (Or.inl (List.mem_of_getElem? (i := 0) rfl))
  obtain ⟨fs, hr, hrun, hended, hW, hsame⟩ := X15.leave (v := some (.int (3 : Int32))) (fun h => by rw [Bd.returns] at h; cases h)
  refine ⟨_, _, pre0 _ ?_, hrun, hended, _, _, rfl, ?_, ⟨_, rfl⟩, hW, hsame.mono (by decide) (by decide)⟩
  · refine XS.iconst X0.here hx rfl (oD hby D41 0 rfl) ?_
    refine XS.istore X0.here hx rfl (oD hby D41 1 rfl) rfl rfl ?_
    refine XS.iload X0.here hx rfl (oD hby D41 2 rfl) rfl ?_
    refine XS.iload X0.here hx rfl (oD hby D41 3 rfl) rfl ?_
    refine XS.icmpNo X0.here hx rfl (oD hby D41 4 rfl) rfl (tlt (by decide : (0 : Int32) < (3 : Int32))).2.1 ?_
    refine XS.aloadN X0.here hx rfl (oD hby D41 5 rfl) rfl rfl ?_
    refine XS.iloadN X0.here hx rfl (oD hby D41 6 rfl) rfl ?_
    refine X0.caload hx (j := (0 : Int32)) (v := (.int c0)) (by rw [e0]; exact Ar1.1) (State.isArrayOf_alike hZ.alike Ar1.2.1) Ar1.2.2 hin1 hat1 (g := (mkF m 12 #[rv u0, iv (0 : Int32), rv u2, iv (0 : Int32), iv (3 : Int32), iv (0 : Int32), .unset] [(.int (0 : Int32)), (.ref u0)])) rfl rfl (oD hby D41 7 rfl) _ ?_
    refine XS.istore X0.here hx rfl (oD hby D41 8 rfl) rfl rfl ?_
    refine XS.iload X0.here hx rfl (oD hby D41 9 rfl) rfl ?_
    refine XS.sipush X0.here hx rfl (oD hby D41 10 rfl) ?_
    refine XS.icmpYes X0.here hx rfl (pc0 := 20) (pc' := 26) rfl (oD hby D41 11 rfl) rfl (flt hc0.2).2.2.2 (by decide) (by decide) ?_
    refine XS.aloadN X0.here hx rfl (oD hby D41 12 rfl) rfl rfl ?_
    refine XS.iloadN X0.here hx rfl (oD hby D41 13 rfl) rfl ?_
    refine XS.iload X0.here hx rfl (oD hby D41 14 rfl) rfl ?_
    refine XS.i2b X0.here hx rfl (oD hby D41 15 rfl) rfl ?_
    refine st3 _ ?_
    refine XS.iinc X3.here hx rfl (oD hby D41 17 rfl) rfl rfl ?_
    refine XS.iinc X3.here hx rfl (oD hby D41 18 rfl) rfl rfl ?_
    refine XS.iinc X3.here hx rfl (oD hby D41 19 rfl) rfl rfl ?_
    refine XS.goto X3.here hx rfl (pc0 := 41) (pc' := 3) rfl (oD hby D41 20 rfl) (by decide) (by decide) ?_
    refine XS.iload X3.here hx rfl (oD hby D41 2 rfl) rfl ?_
    refine XS.iload X3.here hx rfl (oD hby D41 3 rfl) rfl ?_
    show Steps _ _ _ (T3.setTop (mkF m 7 #[rv u0, iv (1 : Int32), rv u2, iv (1 : Int32), iv (3 : Int32), iv (1 : Int32), iv c0] [(.int (3 : Int32)), (.int (1 : Int32))])) _
    refine XS.icmpNo X3.here hx rfl (oD hby D41 4 rfl) rfl (tlt (by decide : (1 : Int32) < (3 : Int32))).2.1 ?_
    refine XS.aloadN X3.here hx rfl (oD hby D41 5 rfl) rfl rfl ?_
    refine XS.iloadN X3.here hx rfl (oD hby D41 6 rfl) rfl ?_
    refine X3.caload hx (j := (1 : Int32)) (v := (.int c1)) (by rw [e3]; exact Ar7.1) (State.isArrayOf_alike hZ.alike Ar7.2.1) Ar7.2.2 hin7 hat7 (g := (mkF m 12 #[rv u0, iv (1 : Int32), rv u2, iv (1 : Int32), iv (3 : Int32), iv (1 : Int32), iv c0] [(.int (1 : Int32)), (.ref u0)])) rfl rfl (oD hby D41 7 rfl) _ ?_
    refine XS.istore X3.here hx rfl (oD hby D41 8 rfl) rfl rfl ?_
    refine XS.iload X3.here hx rfl (oD hby D41 9 rfl) rfl ?_
    refine XS.sipush X3.here hx rfl (oD hby D41 10 rfl) ?_
    refine XS.icmpYes X3.here hx rfl (pc0 := 20) (pc' := 26) rfl (oD hby D41 11 rfl) rfl (flt hc1.2).2.2.2 (by decide) (by decide) ?_
    refine XS.aloadN X3.here hx rfl (oD hby D41 12 rfl) rfl rfl ?_
    refine XS.iloadN X3.here hx rfl (oD hby D41 13 rfl) rfl ?_
    refine XS.iload X3.here hx rfl (oD hby D41 14 rfl) rfl ?_
    refine XS.i2b X3.here hx rfl (oD hby D41 15 rfl) rfl ?_
    refine st9 _ ?_
    refine XS.iinc X9.here hx rfl (oD hby D41 17 rfl) rfl rfl ?_
    refine XS.iinc X9.here hx rfl (oD hby D41 18 rfl) rfl rfl ?_
    refine XS.iinc X9.here hx rfl (oD hby D41 19 rfl) rfl rfl ?_
    refine XS.goto X9.here hx rfl (pc0 := 41) (pc' := 3) rfl (oD hby D41 20 rfl) (by decide) (by decide) ?_
    refine XS.iload X9.here hx rfl (oD hby D41 2 rfl) rfl ?_
    refine XS.iload X9.here hx rfl (oD hby D41 3 rfl) rfl ?_
    refine XS.icmpNo X9.here hx rfl (oD hby D41 4 rfl) rfl (tlt (by decide : (2 : Int32) < (3 : Int32))).2.1 ?_
    refine XS.aloadN X9.here hx rfl (oD hby D41 5 rfl) rfl rfl ?_
    refine XS.iloadN X9.here hx rfl (oD hby D41 6 rfl) rfl ?_
    refine X9.caload hx (j := (2 : Int32)) (v := (.int c2)) (by rw [e9]; exact Ar13.1) (State.isArrayOf_alike hZ.alike Ar13.2.1) Ar13.2.2 hin13 hat13 (g := (mkF m 12 #[rv u0, iv (2 : Int32), rv u2, iv (2 : Int32), iv (3 : Int32), iv (2 : Int32), iv c1] [(.int (2 : Int32)), (.ref u0)])) rfl rfl (oD hby D41 7 rfl) _ ?_
    refine XS.istore X9.here hx rfl (oD hby D41 8 rfl) rfl rfl ?_
    show Steps _ _ _ (T9.setTop (mkF m 15 #[rv u0, iv (2 : Int32), rv u2, iv (2 : Int32), iv (3 : Int32), iv (2 : Int32), iv c2] [])) _
    refine XS.iload X9.here hx rfl (oD hby D41 9 rfl) rfl ?_
    refine XS.sipush X9.here hx rfl (oD hby D41 10 rfl) ?_
    refine XS.icmpYes X9.here hx rfl (pc0 := 20) (pc' := 26) rfl (oD hby D41 11 rfl) rfl (flt hc2.2).2.2.2 (by decide) (by decide) ?_
    refine XS.aloadN X9.here hx rfl (oD hby D41 12 rfl) rfl rfl ?_
    refine XS.iloadN X9.here hx rfl (oD hby D41 13 rfl) rfl ?_
    refine XS.iload X9.here hx rfl (oD hby D41 14 rfl) rfl ?_
    refine XS.i2b X9.here hx rfl (oD hby D41 15 rfl) rfl ?_
    refine st15 _ ?_
    refine XS.iinc X15.here hx rfl (oD hby D41 17 rfl) rfl rfl ?_
    refine XS.iinc X15.here hx rfl (oD hby D41 18 rfl) rfl rfl ?_
    refine XS.iinc X15.here hx rfl (oD hby D41 19 rfl) rfl rfl ?_
    refine XS.goto X15.here hx rfl (pc0 := 41) (pc' := 3) rfl (oD hby D41 20 rfl) (by decide) (by decide) ?_
    refine XS.iload X15.here hx rfl (oD hby D41 2 rfl) rfl ?_
    refine XS.iload X15.here hx rfl (oD hby D41 3 rfl) rfl ?_
    refine XS.icmpYes X15.here hx rfl (pc0 := 7) (pc' := 44) rfl (oD hby D41 4 rfl) rfl (flt (by decide : ¬ ((3 : Int32) < (3 : Int32)))).2.1 (by decide) (by decide) ?_
    refine XS.iload X15.here hx rfl (oD hby D41 21 rfl) rfl ?_
    show Steps _ _ _ (T15.setTop (mkF m 46 #[rv u0, iv (3 : Int32), rv u2, iv (3 : Int32), iv (3 : Int32), iv (3 : Int32), iv c2] [(.int (3 : Int32))])) _
    exact retI X15 hx Bd.returns (oD hby D41 22 rfl) hr
  · show Q_rmC5_3 Z u0 u2 kA c0 c1 c2 kB d0 d1 d2 h0 n0 _ T15.heap _
    rw [e15]
    exact ⟨rfl, N16, K17, V15⟩

theorem ef_rmC3_3 (m : MethodId) (x0 : Addr) (x1 : Int32) (x2 : Int32) : entryFrame m #[(.ref x0), (.int x1), (.int x2)] 6 = mkF m 0 #[rv x0, iv x1, iv x2, .unset, .unset, .unset] [] := by first | (simp [entryFrame, mkF, argsToLocals, Value.category]; done) | rfl
def Q_rmC3_3 (Z : State) (u0 : Addr) (kA : ClassId) (c0 : Int32) (c1 : Int32) (c2 : Int32) (h0 : Heap) (n0 : Nat) (v : Option Value) (h : Heap) (L : List Loc) : Prop := ∃ (t : Addr), ∃ (kt : ClassId), (v = (some (.ref t)) ∧ Fr n0 L ∧ Keep h0 h [] ∧ h0.size ≤ t ∧ Exa Z h t "[B" ∧ Arv Z h t kt .byte (3 : Int32) [(.int (own_by c0)), (.int (own_by c1)), (.int (own_by c2))] (.int (0 : Int32)))
theorem rmC3_3 (l : Launch) (Z : State) (a0 : Array Value) (hw : own_W a0 Z) (ws : List Jvm.Cond) (u0 : Addr) (kA : ClassId) (c0 : Int32) (c1 : Int32) (c2 : Int32) (h0 : Heap) (n0 : Nat) (Z0 : n0 ≤ h0.size) (P_V_u0 : Arv Z h0 u0 kA .char (3 : Int32) [(.int c0), (.int c1), (.int c2)] (.int (0 : Int32))) (hc0 : ¬ c0 < 0 ∧ ¬ (255 : Int32) < c0) (hc1 : ¬ c1 < 0 ∧ ¬ (255 : Int32) < c1) (hc2 : ¬ c2 < 0 ∧ ¬ (255 : Int32) < c2) :
    own_MF l own_y31 (Jvm.Cond.code own_y31 jdk_52_method_16_code 6 (some (.array .byte))) ws ({ frames := 1, cells := 1, slots := 3, locals := 18 } : Room) #[(.ref u0), (.int (0 : Int32)), (.int (3 : Int32))] Z h0 (Q_rmC3_3 Z u0 kA c0 c1 c2 h0 n0) := by
  refine own_enter (n0 := n0) (plainFor_of_name pn_41) (C := "java/lang/StringUTF16") rfl (fun m => ef_rmC3_3 m u0 (0 : Int32) (3 : Int32)) fun p e s m below meth c s₁ Bd hx hby hml hown hnm hZ hh X0 e0 N0 pre0 => ?_
  obtain ⟨T1, h1, k1, X1, e1, E1, A1, Q1, st1⟩ := newPE X0 hx hZ (oG hw 15 rfl) e0 (g := (mkF m 1 #[rv u0, iv (0 : Int32), iv (3 : Int32), .unset, .unset, .unset] [(.int (3 : Int32))])) rfl (oD hby D40 1 rfl) rfl (by decide) (cap := 3) (by decide) (by decide) (by decide) (by decide) (ad := "[B") rfl
  obtain ⟨b1, g1⟩ : ∃ z, z = h0.size := ⟨_, rfl⟩
  rw [← g1] at A1 st1 Q1
  have ne2 : u0 ≠ b1 := Nat.ne_of_lt (Nat.lt_of_lt_of_le P_V_u0.lt (Nat.le_of_eq g1.symm))
  have o1 : n0 ≤ b1 := Nat.le_trans Z0 (Nat.le_of_eq g1.symm)
  have z1 : h0.size ≤ b1 := Nat.le_trans (Keep.refl h0 []).1 (Nat.le_of_eq g1.symm)
  have K1 : Keep h0 h1 [] := (Keep.refl h0 []).ext E1
  have V1 : Arv Z h1 b1 k1 .byte (3 : Int32) [(.int (0 : Int32)), (.int (0 : Int32)), (.int (0 : Int32))] (.int (0 : Int32)) := (Arv.new A1 (by decide)).pad (pad_rep [] (.int (0 : Int32)) 3)
  have f3 := (P_V_u0.ext E1)
  have f4 := (Nat.le_trans Z0 E1.1)
  obtain ⟨_, T5, L5, X5, hQ5, st5⟩ := own_cS X1 hx hown hZ (oG hw 240 rfl) (oG hw 241 rfl) (oG hw 238 rfl) (oG hw 242 rfl) (by decide) (rmC5_3 l Z a0 hw [] u0 b1 kA c0 c1 c2 k1 (0 : Int32) (0 : Int32) (0 : Int32) h1 n0 f4 f3 V1 ne2 hc0 hc1 hc2 o1) (W := 0) (by decide) (by decide) (g := (mkF m 9 #[rv u0, iv (0 : Int32), iv (3 : Int32), rv b1, .unset, .unset] [(.int (3 : Int32)), (.int (0 : Int32)), (.ref b1), (.int (0 : Int32)), (.ref u0)])) rfl (by rw [hml]; rfl) (argsL := [(.ref u0), (.int (0 : Int32)), (.ref b1), (.int (0 : Int32)), (.int (3 : Int32))]) (rest := []) (lenOf pd19 rfl) rfl (own_ww rfl) (oD hby D40 8 rfl) e1 rfl (by decide) (by decide)
  obtain ⟨rfl, N5q, K5, f6⟩ := hQ5
  have KK5 : Keep h0 T5.heap [] := Keep.trans K1 K5 (allS (Or.inr z1) all0)
  have N5 := Fr.app N0 N5q
  obtain ⟨fs, hr, hrun, hended, hW, hsame⟩ := X5.leave (v := some (.ref b1)) (fun h => by rw [Bd.returns] at h; cases h)
  have f7 := (Q1.keep K5)
  refine ⟨_, _, pre0 _ ?_, hrun, hended, _, _, rfl, ?_, ⟨_, rfl⟩, hW, hsame.mono (by decide) (by decide)⟩
  · refine XS.iloadN X0.here hx rfl (oD hby D40 0 rfl) rfl ?_
    refine st1 _ ?_
    refine XS.astoreN X1.here hx rfl (oD hby D40 2 rfl) rfl rfl rfl ?_
    refine XS.aloadN X1.here hx rfl (oD hby D40 3 rfl) rfl rfl ?_
    refine XS.iloadN X1.here hx rfl (oD hby D40 4 rfl) rfl ?_
    refine XS.aloadN X1.here hx rfl (oD hby D40 5 rfl) rfl rfl ?_
    refine XS.iconst X1.here hx rfl (oD hby D40 6 rfl) ?_
    refine XS.iloadN X1.here hx rfl (oD hby D40 7 rfl) rfl ?_
    refine st5 _ ?_
    refine XS.istore X5.here hx rfl (oD hby D40 9 rfl) rfl rfl ?_
    refine XS.iload X5.here hx rfl (oD hby D40 10 rfl) rfl ?_
    refine XS.iloadN X5.here hx rfl (oD hby D40 11 rfl) rfl ?_
    refine XS.icmpYes X5.here hx rfl (pc0 := 17) (pc' := 57) rfl (oD hby D40 12 rfl) rfl (teq (by decide : (3 : Int32) = (3 : Int32))).1 (by decide) (by decide) ?_
    refine XS.aloadN X5.here hx rfl (oD hby D40 13 rfl) rfl rfl ?_
    show Steps _ _ _ (T5.setTop (mkF m 58 #[rv u0, iv (0 : Int32), iv (3 : Int32), rv b1, iv (3 : Int32), .unset] [(.ref b1)])) _
    exact retOut X5 hx Bd.returns rfl (Or.inr (Or.inr (Or.inr (Or.inr ⟨rfl, rfl, rfl⟩)))) (oD hby D40 14 rfl) hr
  · show Q_rmC3_3 Z u0 kA c0 c1 c2 h0 n0 _ T5.heap _
    exact ⟨b1, k1, rfl, N5, KK5, z1, f7, f6⟩

theorem ef_rmCF3 (m : MethodId) (x0 : Addr) (x1 : Int32) : entryFrame m #[(.ref x0), (.int x1)] 2 = mkF m 0 #[rv x0, iv x1] [] := by first | (simp [entryFrame, mkF, argsToLocals, Value.category]; done) | rfl
theorem rmCF3 (l : Launch) (Z : State) (a0 : Array Value) (hw : own_W a0 Z) (ws : List Jvm.Cond) (u0 : Addr) (kt : ClassId) (vs : List Value) (h0 : Heap) (n0 : Nat) (Z0 : n0 ≤ h0.size) (P_G_u0 : Arv Z h0 u0 kt .byte (3 : Int32) vs (.int 0)) :
    own_MF l own_y32 (Jvm.Cond.code own_y32 jdk_52_method_15_code 2 (some .byte)) ws ({ frames := 0, cells := 0, slots := 0, locals := 0 } : Room) #[(.ref u0), (.int (3 : Int32))] Z h0 (own_QP (some (.int (0 : Int32))) h0 n0) := by
  refine own_enter (n0 := n0) (plainFor_of_name pn_41) (C := "java/lang/StringUTF16") rfl (fun m => ef_rmCF3 m u0 (3 : Int32)) fun p e s m below meth c s₁ Bd hx hby hml hown hnm hZ hh X0 e0 N0 pre0 => ?_
  obtain ⟨cl1, Ar1, qq1, S1, N1_, H1, G1⟩ := id P_G_u0
  obtain ⟨fs, hr, hrun, hended, hW, hsame⟩ := X0.leave (v := some (.int (0 : Int32))) (fun h => by rw [Bd.returns] at h; cases h)
  refine ⟨_, _, pre0 _ ?_, hrun, hended, _, _, rfl, ?_, ⟨_, rfl⟩, hW, hsame.mono (by decide) (by decide)⟩
  · refine XS.iloadN X0.here hx rfl (oD hby D42 0 rfl) rfl ?_
    refine XS.aloadN X0.here hx rfl (oD hby D42 1 rfl) rfl rfl ?_
    refine X0.arraylength hx (by rw [e0]; exact Ar1.1) (State.isArrayOf_alike hZ.alike Ar1.2.1) (g := (mkF m 2 #[rv u0, iv (3 : Int32)] [(.ref u0), (.int (3 : Int32))])) rfl rfl (oD hby D42 2 rfl) _ ?_
    rw [len_of S1 N1_]
    refine XS.isub X0.here hx rfl (oD hby D42 3 rfl) rfl ?_
    refine XS.bipush X0.here hx rfl (oD hby D42 4 rfl) ?_
    refine XS.iushr X0.here hx rfl (oD hby D42 5 rfl) rfl ?_
    show Steps _ _ _ (s₁.setTop (mkF m 7 #[rv u0, iv (3 : Int32)] [(.int (((0 : Int32).toUInt32 >>> ((31 : Int32) &&& 31).toUInt32).toInt32))])) _
    rw [(by decide : (((0 : Int32).toUInt32 >>> ((31 : Int32) &&& 31).toUInt32).toInt32) = (0 : Int32))]
    refine XS.i2b X0.here hx rfl (oD hby D42 6 rfl) rfl ?_
    show Steps _ _ _ (s₁.setTop (mkF m 8 #[rv u0, iv (3 : Int32)] [(.int ((0 : Int32).toInt8.toInt32))])) _
    rw [(by decide : ((0 : Int32).toInt8.toInt32) = (0 : Int32))]
    show Steps _ _ _ (s₁.setTop (mkF m 8 #[rv u0, iv (3 : Int32)] [(.int (0 : Int32))])) _
    exact retN X0 hx (t := .byte) Bd.returns (by simp) (oD hby D42 7 rfl) hr
  · show own_QP (some (.int (0 : Int32))) h0 n0 _ s₁.heap _
    rw [e0]
    exact ⟨rfl, N0, rfl⟩

theorem ef_rmI4_3 (m : MethodId) (x0 : Addr) (x1 : Addr) (x2 : Int32) (x3 : Int32) : entryFrame m #[(.ref x0), (.ref x1), (.int x2), (.int x3), .null] 6 = mkF m 0 #[rv x0, rv x1, iv x2, iv x3, .val .null, .unset] [] := by first | (simp [entryFrame, mkF, argsToLocals, Value.category]; done) | rfl
def Q_rmI4_3 (Z : State) (u0 : Addr) (u1 : Addr) (kA : ClassId) (c0 : Int32) (c1 : Int32) (c2 : Int32) (zC : Int32) (h0 : Heap) (n0 : Nat) (v : Option Value) (h : Heap) (L : List Loc) : Prop := ∃ (t : Addr), ∃ (kt : ClassId), (v = none ∧ Fr n0 L ∧ Keep h0 h [u0] ∧ h0.size ≤ t ∧ Exa Z h u0 "java/lang/String" ∧ Fld Z h u0 "java/lang/String" "value" "[B" (.ref t) ∧ Fld Z h u0 "java/lang/String" "coder" "B" (.int (0 : Int32)) ∧ Exa Z h t "[B" ∧ Arv Z h t kt .byte (3 : Int32) [(.int (own_by c0)), (.int (own_by c1)), (.int (own_by c2))] (.int (0 : Int32)))
theorem rmI4_3 (l : Launch) (Z : State) (a0 : Array Value) (hw : own_W a0 Z) (ws : List Jvm.Cond) (u0 : Addr) (u1 : Addr) (kA : ClassId) (c0 : Int32) (c1 : Int32) (c2 : Int32) (zC : Int32) (h0 : Heap) (n0 : Nat) (Z0 : n0 ≤ h0.size) (P_E_u0 : Exa Z h0 u0 "java/lang/String") (P_F_u0_String_value : Fld Z h0 u0 "java/lang/String" "value" "[B" .null) (P_F_u0_String_coder : Fld Z h0 u0 "java/lang/String" "coder" "B" (.int (0 : Int32))) (P_V_u1 : Arv Z h0 u1 kA .char (3 : Int32) [(.int c0), (.int c1), (.int c2)] (.int (0 : Int32))) (neA : u0 ≠ u1) (hc0 : ¬ c0 < 0 ∧ ¬ (255 : Int32) < c0) (hc1 : ¬ c1 < 0 ∧ ¬ (255 : Int32) < c1) (hc2 : ¬ c2 < 0 ∧ ¬ (255 : Int32) < c2) (P_S_String_COMPACT_STRINGS : Sta Z h0 "java/lang/String" "COMPACT_STRINGS" "Z" (.int zC)) (hz : ¬ (zC = (0 : Int32))) (g_u0 : n0 ≤ u0) :
    own_MF l own_y33 (Jvm.Cond.code own_y33 jdk_42_method_149_code 6 none) ws ({ frames := 2, cells := 1, slots := 3, locals := 35 } : Room) #[(.ref u0), (.ref u1), (.int (0 : Int32)), (.int (3 : Int32)), .null] Z h0 (Q_rmI4_3 Z u0 u1 kA c0 c1 c2 zC h0 n0) := by
  refine own_enter (n0 := n0) (plainFor_of_name pn_12) (C := "java/lang/String") rfl (fun m => ef_rmI4_3 m u0 u1 (0 : Int32) (3 : Int32)) fun p e s m below meth c s₁ Bd hx hby hml hown hnm hZ hh X0 e0 N0 pre0 => ?_
  obtain ⟨T1, X1, e1, st1⟩ := initO X0 hx hZ hown (oG hw 11 rfl) (oG hw 12 rfl) (oG hw 13 rfl) e0 (g := (mkF m 1 #[rv u0, rv u1, iv (0 : Int32), iv (3 : Int32), .val .null, .unset] [(.ref u0)])) rfl (by rw [hml]; rfl) rfl (oD hby D2 1 rfl) (by decide) (W := 0) (by show 2 * 0 + _ ≤ _; exact Nat.le_of_eq rfl) (by decide)
  obtain ⟨T2, X2, e2, st2⟩ := getS2 X1 hx hZ hown (host := "") (Or.inl (oG hw 93 rfl)) Via.refl e1 P_S_String_COMPACT_STRINGS (g := (mkF m 27 #[rv u0, rv u1, iv (0 : Int32), iv (3 : Int32), .val .null, .unset] [])) rfl (oD hby D2 4 rfl)
  obtain ⟨_, T3, L3, X3, hQ3, st3⟩ := own_cS X2 hx hown hZ (oG hw 236 rfl) (oG hw 237 rfl) (oG hw 238 rfl) (oG hw 239 rfl) (by decide) (rmC3_3 l Z a0 hw [] u1 kA c0 c1 c2 h0 n0 Z0 P_V_u1 hc0 hc1 hc2) (W := 0) (by decide) (by decide) (g := (mkF m 36 #[rv u0, rv u1, iv (0 : Int32), iv (3 : Int32), .val .null, .unset] [(.int (3 : Int32)), (.int (0 : Int32)), (.ref u1)])) rfl (by rw [hml]; rfl) (argsL := [(.ref u1), (.int (0 : Int32)), (.int (3 : Int32))]) (rest := []) (lenOf pd20 rfl) rfl (own_ww rfl) (oD hby D2 9 rfl) e2 rfl (by decide) (by decide)
  obtain ⟨t_3, kt_3, rfl, N3q, K3, sx3_0, f4, f5⟩ := hQ3
  have ot_3 : n0 ≤ t_3 := Nat.le_trans Z0 sx3_0
  have zt_3 : h0.size ≤ t_3 := Nat.le_trans (Keep.refl h0 [u0]).1 sx3_0
  have ne6 : u0 ≠ t_3 := Nat.ne_of_lt (Nat.lt_of_lt_of_le P_E_u0.lt sx3_0)
  have ne7 : u1 ≠ t_3 := Nat.ne_of_lt (Nat.lt_of_lt_of_le P_V_u1.lt sx3_0)
  have KK3 : Keep h0 T3.heap [u0] := Keep.trans (Keep.refl h0 [u0]) K3 all0
  have N3 := Fr.app N0 N3q
  have f8 := (Nat.le_trans Z0 K3.1)
  obtain ⟨_, T9, L9, X9, hQ9, st9⟩ := own_cS X3 hx hown hZ (oG hw 243 rfl) (oG hw 244 rfl) (oG hw 238 rfl) (oG hw 245 rfl) (by decide) (rmCF3 l Z a0 hw [] t_3 kt_3 [(.int (own_by c0)), (.int (own_by c1)), (.int (own_by c2))] T3.heap n0 f8 f5) (W := 1) (by decide) (by decide) (g := (mkF m 45 #[rv u0, rv u1, iv (0 : Int32), iv (3 : Int32), .val .null, rv t_3] [(.int (3 : Int32)), (.ref t_3), (.ref u0)])) rfl (by rw [hml]; rfl) (argsL := [(.ref t_3), (.int (3 : Int32))]) (rest := [(.ref u0)]) (lenOf pd21 rfl) rfl (own_ww rfl) (oD hby D2 14 rfl) rfl rfl (by decide) (by decide)
  obtain ⟨rfl, N9q, e9⟩ := hQ9
  have N9 := Fr.app N3 N9q
  have f10 := (P_E_u0.keep K3)
  have f11 := (P_F_u0_String_coder.keep K3 nin0)
  obtain ⟨T12, h12, X12, e12, W12, st12⟩ := putFN X9 hx hZ hown (oG hw 21 rfl) Via.refl e9 f11 f10 (Or.inr ⟨(oG hw 17 rfl), rfl, hnm⟩) (oG hw 2 rfl) (ty := .byte) (v' := (.int (0 : Int32))) (by decide) rfl rfl (g := (mkF m 48 #[rv u0, rv u1, iv (0 : Int32), iv (3 : Int32), .val .null, rv t_3] [(.int (0 : Int32)), (.ref u0)])) rfl rfl (oD hby D2 15 rfl)
  have f12_ : Fld Z h12 u0 "java/lang/String" "coder" "B" (.int (0 : Int32)) := f11.same W12
  have N13 := Fr.snoc X12 N9 g_u0
  have K14 : Keep h0 h12 [u0] := KK3.wr W12 (Or.inl (List.mem_of_getElem? (i := 0) rfl))
  have f15 := (f10.wr W12)
  have f16 := ((P_F_u0_String_value.keep K3 nin0).other W12 (Or.inr (slot_ne (Or.inr (oG hw 16 rfl)) (Or.inr (oG hw 17 rfl)) (by decide) (t := (.array .byte)) (t' := .byte) (by decide) (by decide))))
  obtain ⟨T17, h17, X17, e17, W17, st17⟩ := putF X12 hx hZ hown (host := "") (Or.inl (oG hw 20 rfl)) Via.refl e12 f16 f15 (Or.inr ⟨(oG hw 16 rfl), rfl, hnm⟩) (oG hw 2 rfl) (ty := (.array .byte)) (by decide) rfl rfl (g := (mkF m 54 #[rv u0, rv u1, iv (0 : Int32), iv (3 : Int32), .val .null, rv t_3] [(.ref t_3), (.ref u0)])) rfl rfl (oD hby D2 18 rfl)
  have f17_ : Fld Z h17 u0 "java/lang/String" "value" "[B" (.ref t_3) := f16.same W17
  have N18 := Fr.snoc X17 N13 g_u0
  have K19 : Keep h0 h17 [u0] := K14.wr W17 (Or.inl (List.mem_of_getElem? (i := 0) rfl))
  obtain ⟨fs, hr, hrun, hended, hW, hsame⟩ := X17.leave (v := none) (fun _ => rfl)
  have f20 := (f15.wr W17)
  have f21 := (f12_.other W17 (Or.inr (slot_ne (Or.inr (oG hw 17 rfl)) (Or.inr (oG hw 16 rfl)) (by decide) (t := .byte) (t' := (.array .byte)) (by decide) (by decide))))
  have f22 := ((f4.wr W12).wr W17)
  have f23 := ((f5.other W12 (Ne.symm ne6)).other W17 (Ne.symm ne6))
  refine ⟨_, _, pre0 _ ?_, hrun, hended, _, _, rfl, ?_, ⟨_, rfl⟩, hW, hsame.mono (by decide) (by decide)⟩
  · refine XS.aloadN X0.here hx rfl (oD hby D2 0 rfl) rfl rfl ?_
    refine st1 _ ?_
    refine XS.iloadN X1.here hx rfl (oD hby D2 2 rfl) rfl ?_
    refine XS.ifYes X1.here hx rfl (pc0 := 5) (pc' := 27) rfl (oD hby D2 3 rfl) rfl ((if0 _ _).trans (feq (by decide : ¬ ((3 : Int32) = (0 : Int32)))).2) (by decide) (by decide) ?_
    refine st2 _ ?_
    refine XS.ifNo X2.here hx rfl (oD hby D2 5 rfl) rfl ((if0 _ _).trans (feq hz).1) ?_
    refine XS.aloadN X2.here hx rfl (oD hby D2 6 rfl) rfl rfl ?_
    refine XS.iloadN X2.here hx rfl (oD hby D2 7 rfl) rfl ?_
    refine XS.iloadN X2.here hx rfl (oD hby D2 8 rfl) rfl ?_
    refine st3 _ ?_
    refine XS.astore X3.here hx rfl (oD hby D2 10 rfl) rfl rfl rfl ?_
    refine XS.aloadN X3.here hx rfl (oD hby D2 11 rfl) rfl rfl ?_
    refine XS.aload X3.here hx rfl (oD hby D2 12 rfl) rfl rfl ?_
    refine XS.iloadN X3.here hx rfl (oD hby D2 13 rfl) rfl ?_
    refine st9 _ ?_
    refine st12 _ ?_
    refine XS.aloadN X12.here hx rfl (oD hby D2 16 rfl) rfl rfl ?_
    refine XS.aload X12.here hx rfl (oD hby D2 17 rfl) rfl rfl ?_
    refine st17 _ ?_
    show Steps _ _ _ (T17.setTop (mkF m 57 #[rv u0, rv u1, iv (0 : Int32), iv (3 : Int32), .val .null, rv t_3] [])) _
    exact X17.returnOut hx Bd.returns (oD hby D2 19 rfl) hr
  · show Q_rmI4_3 Z u0 u1 kA c0 c1 c2 zC h0 n0 _ T17.heap _
    rw [e17]
    exact ⟨t_3, kt_3, rfl, N18, K19, zt_3, f20, f17_, f21, f22, f23⟩

theorem ef_rmI1_3 (m : MethodId) (x0 : Addr) (x1 : Addr) : entryFrame m #[(.ref x0), (.ref x1)] 2 = mkF m 0 #[rv x0, rv x1] [] := by first | (simp [entryFrame, mkF, argsToLocals, Value.category]; done) | rfl
def Q_rmI1_3 (Z : State) (u0 : Addr) (u1 : Addr) (kA : ClassId) (c0 : Int32) (c1 : Int32) (c2 : Int32) (zC : Int32) (h0 : Heap) (n0 : Nat) (v : Option Value) (h : Heap) (L : List Loc) : Prop := ∃ (t : Addr), ∃ (kt : ClassId), (v = none ∧ Fr n0 L ∧ Keep h0 h [u0] ∧ h0.size ≤ t ∧ Exa Z h u0 "java/lang/String" ∧ Fld Z h u0 "java/lang/String" "value" "[B" (.ref t) ∧ Fld Z h u0 "java/lang/String" "coder" "B" (.int (0 : Int32)) ∧ Exa Z h t "[B" ∧ Arv Z h t kt .byte (3 : Int32) [(.int (own_by c0)), (.int (own_by c1)), (.int (own_by c2))] (.int (0 : Int32)))
theorem rmI1_3 (l : Launch) (Z : State) (a0 : Array Value) (hw : own_W a0 Z) (ws : List Jvm.Cond) (u0 : Addr) (u1 : Addr) (kA : ClassId) (c0 : Int32) (c1 : Int32) (c2 : Int32) (zC : Int32) (h0 : Heap) (n0 : Nat) (Z0 : n0 ≤ h0.size) (P_E_u0 : Exa Z h0 u0 "java/lang/String") (P_F_u0_String_value : Fld Z h0 u0 "java/lang/String" "value" "[B" .null) (P_F_u0_String_coder : Fld Z h0 u0 "java/lang/String" "coder" "B" (.int (0 : Int32))) (P_V_u1 : Arv Z h0 u1 kA .char (3 : Int32) [(.int c0), (.int c1), (.int c2)] (.int (0 : Int32))) (neA : u0 ≠ u1) (hc0 : ¬ c0 < 0 ∧ ¬ (255 : Int32) < c0) (hc1 : ¬ c1 < 0 ∧ ¬ (255 : Int32) < c1) (hc2 : ¬ c2 < 0 ∧ ¬ (255 : Int32) < c2) (P_S_String_COMPACT_STRINGS : Sta Z h0 "java/lang/String" "COMPACT_STRINGS" "Z" (.int zC)) (hz : ¬ (zC = (0 : Int32))) (g_u0 : n0 ≤ u0) :
    own_MF l own_y34 (Jvm.Cond.code own_y34 jdk_42_method_3_code 2 none) ws ({ frames := 3, cells := 1, slots := 3, locals := 52 } : Room) #[(.ref u0), (.ref u1)] Z h0 (Q_rmI1_3 Z u0 u1 kA c0 c1 c2 zC h0 n0) := by
  refine own_enter (n0 := n0) (plainFor_of_name pn_12) (C := "java/lang/String") rfl (fun m => ef_rmI1_3 m u0 u1) fun p e s m below meth c s₁ Bd hx hby hml hown hnm hZ hh X0 e0 N0 pre0 => ?_
  obtain ⟨cl1, Ar1, qq1, S1, N1_, H1, G1⟩ := id P_V_u1
  obtain ⟨_, T2, L2, X2, hQ2, st2⟩ := own_cI X0 hx rfl hown hZ (oG hw 7 rfl) (oG hw 8 rfl) (oG hw 3 rfl) (oG hw 10 rfl) (by decide) (rmI4_3 l Z a0 hw [] u0 u1 kA c0 c1 c2 zC h0 n0 Z0 P_E_u0 P_F_u0_String_value P_F_u0_String_coder P_V_u1 neA hc0 hc1 hc2 P_S_String_COMPACT_STRINGS hz g_u0) (W := 0) (by decide) (by decide) (g := (mkF m 6 #[rv u0, rv u1] [.null, (.int (3 : Int32)), (.int (0 : Int32)), (.ref u1), (.ref u0)])) rfl (by rw [hml]; rfl) (a := u0) (argsL := [(.ref u1), (.int (0 : Int32)), (.int (3 : Int32)), .null]) (rest := []) (lenOf pd22 rfl) rfl (own_ww rfl) (oD hby D1 6 rfl) e0 rfl (by decide) (by decide)
  obtain ⟨t_2, kt_2, rfl, N2q, K2, sx2_0, f3, f4, f5, f6, f7⟩ := hQ2
  have ot_2 : n0 ≤ t_2 := Nat.le_trans Z0 sx2_0
  have zt_2 : h0.size ≤ t_2 := Nat.le_trans (Keep.refl h0 [u0]).1 sx2_0
  have ne8 : u0 ≠ t_2 := Nat.ne_of_lt (Nat.lt_of_lt_of_le P_E_u0.lt sx2_0)
  have ne9 : u1 ≠ t_2 := Nat.ne_of_lt (Nat.lt_of_lt_of_le P_V_u1.lt sx2_0)
  have KK2 : Keep h0 T2.heap [u0] := Keep.trans (Keep.refl h0 [u0]) K2 (allS (Or.inl (List.mem_of_getElem? (i := 0) rfl)) all0)
  have N2 := Fr.app N0 N2q
  obtain ⟨fs, hr, hrun, hended, hW, hsame⟩ := X2.leave (v := none) (fun _ => rfl)
  refine ⟨_, _, pre0 _ ?_, hrun, hended, _, _, rfl, ?_, ⟨_, rfl⟩, hW, hsame.mono (by decide) (by decide)⟩
  · refine XS.aloadN X0.here hx rfl (oD hby D1 0 rfl) rfl rfl ?_
    refine XS.aloadN X0.here hx rfl (oD hby D1 1 rfl) rfl rfl ?_
    refine XS.iconst X0.here hx rfl (oD hby D1 2 rfl) ?_
    refine XS.aloadN X0.here hx rfl (oD hby D1 3 rfl) rfl rfl ?_
    refine X0.arraylength hx (by rw [e0]; exact Ar1.1) (State.isArrayOf_alike hZ.alike Ar1.2.1) (g := (mkF m 4 #[rv u0, rv u1] [(.ref u1), (.int (0 : Int32)), (.ref u1), (.ref u0)])) rfl rfl (oD hby D1 4 rfl) _ ?_
    rw [len_of S1 N1_]
    refine XS.aconstNull X0.here hx rfl (oD hby D1 5 rfl) ?_
    refine st2 _ ?_
    show Steps _ _ _ (T2.setTop (mkF m 9 #[rv u0, rv u1] [])) _
    exact X2.returnOut hx Bd.returns (oD hby D1 7 rfl) hr
  · show Q_rmI1_3 Z u0 u1 kA c0 c1 c2 zC h0 n0 _ T2.heap _
    exact ⟨t_2, kt_2, rfl, N2, KK2, zt_2, f3, f4, f5, f6, f7⟩

theorem ef_rmI4_0 (m : MethodId) (x0 : Addr) (x1 : Addr) (x2 : Int32) (x3 : Int32) : entryFrame m #[(.ref x0), (.ref x1), (.int x2), (.int x3), .null] 6 = mkF m 0 #[rv x0, rv x1, iv x2, iv x3, .val .null, .unset] [] := by first | (simp [entryFrame, mkF, argsToLocals, Value.category]; done) | rfl
def Q_rmI4_0 (Z : State) (u0 : Addr) (u1 : Addr) (h0 : Heap) (n0 : Nat) (v : Option Value) (h : Heap) (L : List Loc) : Prop := ∃ (t : Jvm.Addr), ∃ (kt : ClassId), (v = none ∧ Fr n0 L ∧ Keep h0 h [u0] ∧ Exa Z h u0 "java/lang/String" ∧ Fld Z h u0 "java/lang/String" "value" "[B" (.ref t) ∧ Fld Z h u0 "java/lang/String" "coder" "B" (.int (0 : Int32)) ∧ Exa Z h t "[B" ∧ Arv Z h t kt .byte (0 : Int32) [] (.int (0 : Int32)))
theorem rmI4_0 (l : Launch) (Z : State) (a0 : Array Value) (hw : own_W a0 Z) (ws : List Jvm.Cond) (u0 : Addr) (u1 : Addr) (h0 : Heap) (n0 : Nat) (Z0 : n0 ≤ h0.size) (P_E_u0 : Exa Z h0 u0 "java/lang/String") (P_F_u0_String_value : Fld Z h0 u0 "java/lang/String" "value" "[B" .null) (P_F_u0_String_coder : Fld Z h0 u0 "java/lang/String" "coder" "B" (.int (0 : Int32))) (g_u0 : n0 ≤ u0) :
    MetFree l own_y33 (head1 (Jvm.Cond.code own_y33 jdk_42_method_149_code 6 none :: ws) ({ frames := 1, cells := 4, slots := 8, locals := 12 } : Room)) (fun a U => a = #[(.ref u0), (.ref u1), (.int (0 : Int32)), (.int (0 : Int32)), .null] ∧ Z.Warmed39 U.vm ∧ U.heap = h0 ∧ CHv Z own_EL U.vm h0) (fun _ _ _ _ _ => True) (fun _ U o U' => ∃ v L, o = .returned v ∧ Q_rmI4_0 Z u0 u1 h0 n0 v U'.heap L ∧ CHr Z own_EL U.vm U.heap U'.vm U'.heap ∧ ReturnedEndW U o U' L ({ frames := 1, cells := 4, slots := 8, locals := 12 } : Room).cells ({ frames := 1, cells := 4, slots := 8, locals := 12 } : Room).slots) := by
  refine MetFree.of_bodySF (plainFor_of_name pn_12) hisR ?_
  intro p e s m args below meth c s₁ Bd hml0 hP hK
  obtain ⟨rfl, hZ, hh, hCH⟩ := hP
  have hx := Bd.exec
  have hby := Bd.bytes
  have hml : c.maxLocals = 6 := hml0
  have hown : s.vm.findClass "java/lang/String" = some m.cls := findClass_of_methodNamed Bd.named
  have hnm := (name_of_methodNamed Bd.named Bd.method).1
  have X0 : Stand p l e ({ frames := 1, cells := 4, slots := 8, locals := 12 } : Room) s m #[(.ref u0), (.ref u1), (.int (0 : Int32)), (.int (0 : Int32)), .null] below meth c s₁ [] 0 0 := Stand.of_body Bd
  have e0 : s₁.heap = h0 := by rw [← hh, Bd.state]; rfl
  have N0 := Fr.nil n0
  have pre0 : ∀ t, Steps p.tables e below (s₁.setTop (mkF m 0 #[rv u0, rv u1, iv (0 : Int32), iv (0 : Int32), .val .null, .unset] [])) t → Steps p.tables e below (s₁.setTop (entryFrame m #[(.ref u0), (.ref u1), (.int (0 : Int32)), (.int (0 : Int32)), .null] 6)) t := fun t k => castTop (ef_rmI4_0 m u0 u1 (0 : Int32) (0 : Int32)) k
  have hEL : EW Z a0 own_EL := own_hEL hw
  have wS : ∀ a ∈ Bundle.stringAtoms, a.before a0 Z = true := fun d hd => hw d ((by decide +kernel : ∀ d ∈ Bundle.stringAtoms, d ∈ tables_1) d hd)
  have CH0 : CHr Z own_EL s.vm h0 s.vm h0 := CHr.refl hCH
  have hS0 : s.Since s.vm h0.size := (State.WarmedH.refl s).since _
  have Y_u0 : Safe Z own_EL s.vm h0 u0 := own_safeN hZ.alike P_E_u0 P_F_u0_String_value
  have pre1 : own_V p e below _ s₁ (mkF m 1 #[rv u0, rv u1, iv (0 : Int32), iv (0 : Int32), .val .null, .unset] [(.ref u0)]) := fun t kt => pre0 t (by
   refine XS.aloadN X0.here hx rfl (oD hby D2 0 rfl) rfl rfl ?_
   exact kt)
  obtain ⟨T2, X2, e2, st2⟩ := initO X0 hx hZ hown (oG hw 11 rfl) (oG hw 12 rfl) (oG hw 13 rfl) e0 (g := (mkF m 1 #[rv u0, rv u1, iv (0 : Int32), iv (0 : Int32), .val .null, .unset] [(.ref u0)])) rfl (by rw [hml]; rfl) rfl (oD hby D2 1 rfl) (by decide) (W := 0) (by show 2 * 0 + _ ≤ _; exact Nat.le_of_eq rfl) (by decide)
  have pre3 : own_V p e below _ T2 (mkF m 9 #[rv u0, rv u1, iv (0 : Int32), iv (0 : Int32), .val .null, .unset] [(.ref u0)]) := fun t kt => pre1 t (by
   refine st2 _ ?_
   refine XS.iloadN X2.here hx rfl (oD hby D2 2 rfl) rfl ?_
   refine XS.ifNo X2.here hx rfl (oD hby D2 3 rfl) rfl ((if0 _ _).trans (teq (by decide : (0 : Int32) = (0 : Int32))).2) ?_
   refine XS.aloadN X2.here hx rfl (oD hby D2 20 rfl) rfl rfl ?_
   exact kt)
  obtain ⟨a4, T4, h4, kk4, b4, kc4, X4, e4, E4, hS4, hk4, hZ4, hown4, Ea4, Ca4, Va4, Aa4, la4, lb4, CHq4, Lt4, nx4, st4⟩ := ldcCH (vs := []) (z := (0 : Int32)) (show Stand p l e ({ frames := 1, cells := 4, slots := 8, locals := 12 } : Room) (s.setVm s.vm) m _ below meth c _ _ _ _ from X2) hx hZ hown (oG hw 14 rfl) wS e2 hS0 (Nat.le_refl h0.size) hEL (List.mem_of_getElem? (i := 7) rfl) CH0.1 ⟨by decide, rfl⟩ (by decide) rfl (g := (mkF m 9 #[rv u0, rv u1, iv (0 : Int32), iv (0 : Int32), .val .null, .unset] [(.ref u0)])) rfl (oD hby D2 21 rfl) (n := 0) (by decide) (by decide) (by decide) (by decide)
  have K4 : Keep h0 h4 [u0] := (Keep.refl h0 [u0]).ext E4
  have CH5 : CHr Z own_EL s.vm h0 T4.vm h4 := CH0.trans CHq4
  have Yr6 : Safe Z own_EL T4.vm h4 u0 := CHr.safe CHq4 P_E_u0.lt Y_u0
  have Qb4 : Exa Z h4 b4 "[B" := own_litB hZ4.alike Aa4 (Classical.byContradiction fun S_ => (nx4 b4 S_).2 rfl)
  obtain ⟨T7, X7, e7, st7⟩ := getF X4 hx hZ4 hown4 (host := "") (Or.inl (oG hw 20 rfl)) Via.refl e4 Va4 (g := (mkF m 11 #[rv u0, rv u1, iv (0 : Int32), iv (0 : Int32), .val .null, .unset] [(.ref a4), (.ref u0)])) rfl rfl (oD hby D2 22 rfl)
  have f8 := (P_E_u0.ext E4)
  have f9 := (P_F_u0_String_value.ext E4)
  obtain ⟨T10, h10, X10, e10, W10, st10⟩ := putF X7 hx hZ4 hown4 (host := "") (Or.inl (oG hw 20 rfl)) Via.refl e7 f9 f8 (Or.inr ⟨(oG hw 16 rfl), rfl, hnm⟩) (oG hw 2 rfl) (ty := (.array .byte)) (by decide) rfl rfl (g := (mkF m 14 #[rv u0, rv u1, iv (0 : Int32), iv (0 : Int32), .val .null, .unset] [(.ref b4), (.ref u0)])) rfl rfl (oD hby D2 23 rfl)
  have CH11 : CHr Z own_EL s.vm h0 T4.vm h10 := CH5.trans (CHr.wr W10 Yr6 CH5.1)
  have f10_ : Fld Z h10 u0 "java/lang/String" "value" "[B" (.ref b4) := f9.same W10
  have N12 := Fr.snoc X10 N0 g_u0
  have K13 : Keep h0 h10 [u0] := K4.wr W10 (Or.inl (List.mem_of_getElem? (i := 0) rfl))
  have pre14 : own_V p e below _ T10 (mkF m 18 #[rv u0, rv u1, iv (0 : Int32), iv (0 : Int32), .val .null, .unset] [(.ref u0)]) := fun t kt => pre3 t (by
   refine st4 _ ?_
   refine st7 _ ?_
   refine st10 _ ?_
   refine XS.aloadN X10.here hx rfl (oD hby D2 24 rfl) rfl rfl ?_
   exact kt)
  have f15 := (Nat.le_trans hk4 (Keep.of_wr W10).1)
  have f16 : Safe Z own_EL T4.vm h10 u0 := (Safe.wr W10 Yr6 CH5.1 Yr6)
  have f17 := (f8.wr W10)
  obtain ⟨a18, T18, h18, kk18, b18, kc18, X18, e18, E18, hS18, hk18, hZ18, hown18, Ea18, Ca18, Va18, Aa18, la18, lb18, CHq18, Lt18, nx18, st18⟩ := ldcCH (vs := []) (z := (0 : Int32)) (show Stand p l e ({ frames := 1, cells := 4, slots := 8, locals := 12 } : Room) (s.setVm T4.vm) m _ below meth c _ _ _ _ from X10) hx hZ4 hown4 (oG hw 14 rfl) wS e10 hS4 f15 hEL (List.mem_of_getElem? (i := 7) rfl) CH11.1 ⟨by decide, rfl⟩ (by decide) rfl (g := (mkF m 18 #[rv u0, rv u1, iv (0 : Int32), iv (0 : Int32), .val .null, .unset] [(.ref u0)])) rfl (oD hby D2 25 rfl) (n := 0) (by decide) (by decide) (by decide) (by decide)
  have K18 : Keep h0 h18 [u0] := K13.ext E18
  have CH19 : CHr Z own_EL s.vm h0 T18.vm h18 := CH11.trans CHq18
  have Yr20 : Safe Z own_EL T18.vm h18 u0 := CHr.safe CHq18 f17.lt f16
  have Qb18 : Exa Z h18 b18 "[B" := own_litB hZ18.alike Aa18 (Classical.byContradiction fun S_ => (nx18 b18 S_).2 rfl)
  obtain ⟨T21, X21, e21, st21⟩ := getF X18 hx hZ18 hown18 (host := "") (Or.inl (oG hw 21 rfl)) Via.refl e18 Ca18 (g := (mkF m 20 #[rv u0, rv u1, iv (0 : Int32), iv (0 : Int32), .val .null, .unset] [(.ref a18), (.ref u0)])) rfl rfl (oD hby D2 26 rfl)
  have f22 := (f17.ext E18)
  have f23 := (((P_F_u0_String_coder.ext E4).other W10 (Or.inr (slot_ne (Or.inr (oG hw 17 rfl)) (Or.inr (oG hw 16 rfl)) (by decide) (t := .byte) (t' := (.array .byte)) (by decide) (by decide)))).ext E18)
  obtain ⟨T24, h24, X24, e24, W24, st24⟩ := putFN X21 hx hZ18 hown18 (oG hw 21 rfl) Via.refl e21 f23 f22 (Or.inr ⟨(oG hw 17 rfl), rfl, hnm⟩) (oG hw 2 rfl) (ty := .byte) (v' := (.int (0 : Int32))) (by decide) rfl rfl (g := (mkF m 23 #[rv u0, rv u1, iv (0 : Int32), iv (0 : Int32), .val .null, .unset] [(.int (0 : Int32)), (.ref u0)])) rfl rfl (oD hby D2 27 rfl)
  have CH25 : CHr Z own_EL s.vm h0 T18.vm h24 := CH19.trans (CHr.wr W24 Yr20 CH19.1)
  have f24_ : Fld Z h24 u0 "java/lang/String" "coder" "B" (.int (0 : Int32)) := f23.same W24
  have N26 := Fr.snoc X24 N12 g_u0
  have K27 : Keep h0 h24 [u0] := K18.wr W24 (Or.inl (List.mem_of_getElem? (i := 0) rfl))
  obtain ⟨fs, hr, hrun, hended, hW, hsame⟩ := X24.leave (v := none) (fun _ => rfl)
  have f28 := (f22.wr W24)
  have f29 := ((f10_.ext E18).other W24 (Or.inr (slot_ne (Or.inr (oG hw 16 rfl)) (Or.inr (oG hw 17 rfl)) (by decide) (t := (.array .byte)) (t' := .byte) (by decide) (by decide))))
  have f30 := (((Qb4.wr W10).ext E18).wr W24)
  have f31 := (((Aa4.other W10 (Ne.symm (nx4 u0 Yr6).2)).ext E18).other W24 (Ne.symm (nx4 u0 Yr6).2))
  have f32 := (Nat.le_trans hk18 (Keep.of_wr W24).1)
  have qE := hS18.ended (c := ({ frames := 1, cells := 4, slots := 8, locals := 12 } : Room).cells) (k := ({ frames := 1, cells := 4, slots := 8, locals := 12 } : Room).slots) hW (show _ ≤ T24.heap.size from (by rw [e24]; exact f32)) (hsame.mono (by decide) (by decide))
  have qC : CHr Z own_EL s.vm s.heap T24.vm T24.heap := by rw [hh, e24]; exact CH25.trans (CHv.at (show Stand p l e ({ frames := 1, cells := 4, slots := 8, locals := 12 } : Room) (s.setVm T18.vm) m _ below meth c _ _ _ _ from X24) hZ18 hEL CH25.1)
  refine ⟨_, _, pre14 _ ?_, hrun, hended, _, _, rfl, ?_, qC, ⟨_, rfl⟩, qE.1, qE.2.1, qE.2.2⟩
  · refine st18 _ ?_
    refine st21 _ ?_
    refine st24 _ ?_
    show Steps _ _ _ (T24.setTop (mkF m 26 #[rv u0, rv u1, iv (0 : Int32), iv (0 : Int32), .val .null, .unset] [])) _
    exact X24.returnOut hx Bd.returns (oD hby D2 28 rfl) hr
  · show Q_rmI4_0 Z u0 u1 h0 n0 _ T24.heap _
    rw [e24]
    exact ⟨b4, kc4, rfl, N26, K27, f28, f29, f24_, f30, f31⟩

theorem ef_rmI1_0 (m : MethodId) (x0 : Addr) (x1 : Addr) : entryFrame m #[(.ref x0), (.ref x1)] 2 = mkF m 0 #[rv x0, rv x1] [] := by first | (simp [entryFrame, mkF, argsToLocals, Value.category]; done) | rfl
def Q_rmI1_0 (Z : State) (u0 : Addr) (u1 : Addr) (kA : ClassId) (h0 : Heap) (n0 : Nat) (v : Option Value) (h : Heap) (L : List Loc) : Prop := ∃ (t : Jvm.Addr), ∃ (kt : ClassId), (v = none ∧ Fr n0 L ∧ Keep h0 h [u0] ∧ Exa Z h u0 "java/lang/String" ∧ Fld Z h u0 "java/lang/String" "value" "[B" (.ref t) ∧ Fld Z h u0 "java/lang/String" "coder" "B" (.int (0 : Int32)) ∧ Exa Z h t "[B" ∧ Arv Z h t kt .byte (0 : Int32) [] (.int (0 : Int32)))
theorem rmI1_0 (l : Launch) (Z : State) (a0 : Array Value) (hw : own_W a0 Z) (ws : List Jvm.Cond) (u0 : Addr) (u1 : Addr) (kA : ClassId) (h0 : Heap) (n0 : Nat) (Z0 : n0 ≤ h0.size) (P_E_u0 : Exa Z h0 u0 "java/lang/String") (P_F_u0_String_value : Fld Z h0 u0 "java/lang/String" "value" "[B" .null) (P_F_u0_String_coder : Fld Z h0 u0 "java/lang/String" "coder" "B" (.int (0 : Int32))) (P_V_u1 : Arv Z h0 u1 kA .char (0 : Int32) [] (.int (0 : Int32))) (g_u0 : n0 ≤ u0) :
    MetFree l own_y34 (head1 (Jvm.Cond.code own_y34 jdk_42_method_3_code 2 none :: ws) ({ frames := 2, cells := 4, slots := 8, locals := 29 } : Room)) (fun a U => a = #[(.ref u0), (.ref u1)] ∧ Z.Warmed39 U.vm ∧ U.heap = h0 ∧ CHv Z own_EL U.vm h0) (fun _ _ _ _ _ => True) (fun _ U o U' => ∃ v L, o = .returned v ∧ Q_rmI1_0 Z u0 u1 kA h0 n0 v U'.heap L ∧ CHr Z own_EL U.vm U.heap U'.vm U'.heap ∧ ReturnedEndW U o U' L ({ frames := 2, cells := 4, slots := 8, locals := 29 } : Room).cells ({ frames := 2, cells := 4, slots := 8, locals := 29 } : Room).slots) := by
  refine MetFree.of_bodySF (plainFor_of_name pn_12) hisR ?_
  intro p e s m args below meth c s₁ Bd hml0 hP hK
  obtain ⟨rfl, hZ, hh, hCH⟩ := hP
  have hx := Bd.exec
  have hby := Bd.bytes
  have hml : c.maxLocals = 2 := hml0
  have hown : s.vm.findClass "java/lang/String" = some m.cls := findClass_of_methodNamed Bd.named
  have hnm := (name_of_methodNamed Bd.named Bd.method).1
  have X0 : Stand p l e ({ frames := 2, cells := 4, slots := 8, locals := 29 } : Room) s m #[(.ref u0), (.ref u1)] below meth c s₁ [] 0 0 := Stand.of_body Bd
  have e0 : s₁.heap = h0 := by rw [← hh, Bd.state]; rfl
  have N0 := Fr.nil n0
  have pre0 : ∀ t, Steps p.tables e below (s₁.setTop (mkF m 0 #[rv u0, rv u1] [])) t → Steps p.tables e below (s₁.setTop (entryFrame m #[(.ref u0), (.ref u1)] 2)) t := fun t k => castTop (ef_rmI1_0 m u0 u1) k
  have hEL : EW Z a0 own_EL := own_hEL hw
  have wS : ∀ a ∈ Bundle.stringAtoms, a.before a0 Z = true := fun d hd => hw d ((by decide +kernel : ∀ d ∈ Bundle.stringAtoms, d ∈ tables_1) d hd)
  have CH0 : CHr Z own_EL s.vm h0 s.vm h0 := CHr.refl hCH
  have hS0 : s.Since s.vm h0.size := (State.WarmedH.refl s).since _
  obtain ⟨cl1, Ar1, qq1, S1, N1_, H1, G1⟩ := id P_V_u1
  have pre2 : own_V p e below _ s₁ (mkF m 6 #[rv u0, rv u1] [.null, (.int (0 : Int32)), (.int (0 : Int32)), (.ref u1), (.ref u0)]) := fun t kt => pre0 t (by
   refine XS.aloadN X0.here hx rfl (oD hby D1 0 rfl) rfl rfl ?_
   refine XS.aloadN X0.here hx rfl (oD hby D1 1 rfl) rfl rfl ?_
   refine XS.iconst X0.here hx rfl (oD hby D1 2 rfl) ?_
   refine XS.aloadN X0.here hx rfl (oD hby D1 3 rfl) rfl rfl ?_
   refine X0.arraylength hx (by rw [e0]; exact Ar1.1) (State.isArrayOf_alike hZ.alike Ar1.2.1) (g := (mkF m 4 #[rv u0, rv u1] [(.ref u1), (.int (0 : Int32)), (.ref u1), (.ref u0)])) rfl rfl (oD hby D1 4 rfl) _ ?_
   rw [len_of S1 N1_]
   refine XS.aconstNull X0.here hx rfl (oD hby D1 5 rfl) ?_
   exact kt)
  obtain ⟨_, _, ⟨T3, L3, k3, n3⟩, -, Xw3, hSw3, gr3, ⟨Lc3, hQ3, l3, y3, z3, CHq3⟩, st3⟩ := X0.specialBackS hx (y := own_y33) rfl hown (mvT hZ (oG hw 7 rfl)) (mvT hZ (oG hw 8 rfl)) (mvT hZ (oG hw 10 rfl)) (by decide) (backOfSH (W := 0) (rmI4_0 l Z a0 hw [] u0 u1 h0 n0 Z0 P_E_u0 P_F_u0_String_value P_F_u0_String_coder g_u0) hZ (oG hw 10 rfl) (oG hw 3 rfl) (by decide) (by decide) hEL CH0.1) (g := (mkF m 6 #[rv u0, rv u1] [.null, (.int (0 : Int32)), (.int (0 : Int32)), (.ref u1), (.ref u0)])) rfl (by rw [hml]; rfl) (Steps.refl _) (a := u0) (argsL := [(.ref u1), (.int (0 : Int32)), (.int (0 : Int32)), .null]) (rest := []) (lenOf pd22 rfl) rfl (by show 2 * 0 + _ ≤ _; exact Nat.le_of_eq rfl) (oD hby D1 6 rfl) (fun _ _ => ⟨rfl, e0, (by decide : 0 + 4 ≤ _), (by decide : 0 + 8 ≤ _)⟩)
  dsimp only [Pt.U, Pt.locs, Pt.cells, Pt.slots] at Xw3 hSw3 gr3 l3 y3 z3 st3 hQ3 CHq3
  subst l3 y3 z3
  obtain ⟨X3, hS3, hZ3, hown3⟩ := rebS hS0 (by rw [e0]; exact (Nat.le_refl h0.size)) Xw3 hSw3 gr3 hZ hown
  obtain ⟨t_3, kt_3, rfl, N3q, K3, f4, f5, f6, f7, f8⟩ := hQ3
  have KK3 : Keep h0 T3.heap [u0] := Keep.trans (Keep.refl h0 [u0]) K3 (allS (Or.inl (List.mem_of_getElem? (i := 0) rfl)) all0)
  have CH9 : CHr Z own_EL s.vm h0 T3.vm T3.heap := CH0.trans CHq3
  have N3 := Fr.app N0 N3q
  obtain ⟨fs, hr, hrun, hended, hW, hsame⟩ := X3.leave (v := none) (fun _ => rfl)
  have qE := hS3.ended (c := ({ frames := 2, cells := 4, slots := 8, locals := 29 } : Room).cells) (k := ({ frames := 2, cells := 4, slots := 8, locals := 29 } : Room).slots) hW (show _ ≤ T3.heap.size from (Nat.le_refl _)) (hsame.mono (by decide) (by decide))
  have qC : CHr Z own_EL s.vm s.heap T3.vm T3.heap := by rw [hh]; exact CH9.trans (CHv.at (show Stand p l e ({ frames := 2, cells := 4, slots := 8, locals := 29 } : Room) (s.setVm T3.vm) m _ below meth c _ _ _ _ from X3) hZ3 hEL CH9.1)
  refine ⟨_, _, pre2 _ ?_, hrun, hended, _, _, rfl, ?_, qC, ⟨_, rfl⟩, qE.1, qE.2.1, qE.2.2⟩
  · refine st3.trans ?_
    show Steps _ _ _ (T3.setTop (mkF m 9 #[rv u0, rv u1] [])) _
    exact X3.returnOut hx Bd.returns (oD hby D1 7 rfl) hr
  · show Q_rmI1_0 Z u0 u1 kA h0 n0 _ T3.heap _
    exact ⟨t_3, kt_3, rfl, N3, KK3, f4, f5, f6, f7, f8⟩

theorem ef_rmCE (m : MethodId) (x0 : Int32) : entryFrame m #[(.int x0)] 1 = mkF m 0 #[iv x0] [] := by first | (simp [entryFrame, mkF, argsToLocals, Value.category]; done) | rfl
theorem rmCE (l : Launch) (Z : State) (a0 : Array Value) (hw : own_W a0 Z) (ws : List Jvm.Cond) (p0 : Int32) (h0 : Heap) (n0 : Nat) (Z0 : n0 ≤ h0.size) (hc8 : ¬ p0 < 0 ∧ ¬ (255 : Int32) < p0) :
    own_MF l own_y35 (Jvm.Cond.code own_y35 jdk_43_method_3_code 1 (some .boolean)) ws ({ frames := 0, cells := 0, slots := 0, locals := 0 } : Room) #[(.int p0)] Z h0 (own_QP (some (.int (1 : Int32))) h0 n0) := by
  refine own_enter (n0 := n0) (plainFor_of_name pn_35) (C := "java/lang/StringLatin1") rfl (fun m => ef_rmCE m p0) fun p e s m below meth c s₁ Bd hx hby hml hown hnm hZ hh X0 e0 N0 pre0 => ?_
  obtain ⟨fs, hr, hrun, hended, hW, hsame⟩ := X0.leave (v := some (.int (1 : Int32))) (fun h => by rw [Bd.returns] at h; cases h)
  refine ⟨_, _, pre0 _ ?_, hrun, hended, _, _, rfl, ?_, ⟨_, rfl⟩, hW, hsame.mono (by decide) (by decide)⟩
  · refine XS.iloadN X0.here hx rfl (oD hby D48 0 rfl) rfl ?_
    refine XS.sipush X0.here hx rfl (oD hby D48 1 rfl) ?_
    refine XS.icmpNo X0.here hx rfl (oD hby D48 2 rfl) rfl (flt hc8.2).2.2.1 ?_
    refine XS.iconst X0.here hx rfl (oD hby D48 3 rfl) ?_
    refine XS.goto X0.here hx rfl (pc0 := 8) (pc' := 12) rfl (oD hby D48 4 rfl) (by decide) (by decide) ?_
    show Steps _ _ _ (s₁.setTop (mkF m 12 #[iv p0] [(.int (1 : Int32))])) _
    exact retN X0 hx (t := .boolean) Bd.returns (by simp) (oD hby D48 5 rfl) hr
  · show own_QP (some (.int (1 : Int32))) h0 n0 _ s₁.heap _
    rw [e0]
    exact ⟨rfl, N0, rfl⟩

theorem ef_rmTB (m : MethodId) (x0 : Int32) : entryFrame m #[(.int x0)] 1 = mkF m 0 #[iv x0] [] := by first | (simp [entryFrame, mkF, argsToLocals, Value.category]; done) | rfl
def Q_rmTB (Z : State) (p0 : Int32) (h0 : Heap) (n0 : Nat) (v : Option Value) (h : Heap) (L : List Loc) : Prop := ∃ (tb : Addr), (v = (some (.ref tb)) ∧ Fr n0 L ∧ Keep h0 h [] ∧ h0.size ≤ tb)
theorem rmTB (l : Launch) (Z : State) (a0 : Array Value) (hw : own_W a0 Z) (ws : List Jvm.Cond) (p0 : Int32) (h0 : Heap) (n0 : Nat) (Z0 : n0 ≤ h0.size) :
    own_MF l own_y36 (Jvm.Cond.code own_y36 jdk_43_method_46_code 1 (some (.array .byte))) ws ({ frames := 0, cells := 1, slots := 1, locals := 0 } : Room) #[(.int p0)] Z h0 (Q_rmTB Z p0 h0 n0) := by
  refine own_enter (n0 := n0) (plainFor_of_name pn_35) (C := "java/lang/StringLatin1") rfl (fun m => ef_rmTB m p0) fun p e s m below meth c s₁ Bd hx hby hml hown hnm hZ hh X0 e0 N0 pre0 => ?_
  obtain ⟨T1, h1, k1, X1, e1, E1, A1, Q1, st1⟩ := newPE X0 hx hZ (oG hw 15 rfl) e0 (g := (mkF m 1 #[iv p0] [(.int (1 : Int32))])) rfl (oD hby D49 1 rfl) rfl (by decide) (cap := 1) (by decide) (by decide) (by decide) (by decide) (ad := "[B") rfl
  obtain ⟨b1, g1⟩ : ∃ z, z = h0.size := ⟨_, rfl⟩
  rw [← g1] at A1 st1 Q1
  have o1 : n0 ≤ b1 := Nat.le_trans Z0 (Nat.le_of_eq g1.symm)
  have z1 : h0.size ≤ b1 := Nat.le_trans (Keep.refl h0 []).1 (Nat.le_of_eq g1.symm)
  have K1 : Keep h0 h1 [] := (Keep.refl h0 []).ext E1
  have V1 : Arv Z h1 b1 k1 .byte (1 : Int32) [(.int (0 : Int32))] (.int (0 : Int32)) := (Arv.new A1 (by decide)).pad (pad_rep [] (.int (0 : Int32)) 1)
  obtain ⟨cl2, Ar2, qq2, S2, N2_, H2, G2⟩ := id V1
  have hin2 : ¬ ((0 : Int32) < 0 ∨ cl2.slots.size ≤ ((0 : Int32)).toNatClampNeg) := inb_of S2 ⟨by decide, by decide⟩
  obtain ⟨T3, h3, X3, e3, W3, st3⟩ := stB X1 hx hZ e1 Ar2 (j := (0 : Int32)) hin2 (g := (mkF m 7 #[iv p0] [(.int (p0.toInt8.toInt32)), (.int (0 : Int32)), (.ref b1), (.ref b1)])) rfl rfl (oD hby D49 6 rfl)
  have V3 : Arv Z h3 b1 k1 .byte (1 : Int32) [(.int ((p0.toInt8.toInt32).toInt8.toInt32))] (.int (0 : Int32)) := Arv.set Ar2 qq2 S2 N2_ H2 G2 (fits_nar_byte _) W3 0 rfl (Nat.le_of_ble_eq_true rfl)
  have N4 := Fr.snoc X3 N0 o1
  have K5 : Keep h0 h3 [] := K1.wr W3 (Or.inr z1)
  obtain ⟨fs, hr, hrun, hended, hW, hsame⟩ := X3.leave (v := some (.ref b1)) (fun h => by rw [Bd.returns] at h; cases h)
  refine ⟨_, _, pre0 _ ?_, hrun, hended, _, _, rfl, ?_, ⟨_, rfl⟩, hW, hsame.mono (by decide) (by decide)⟩
  · refine XS.iconst X0.here hx rfl (oD hby D49 0 rfl) ?_
    refine st1 _ ?_
    refine XS.dup X1.here hx rfl (oD hby D49 2 rfl) rfl rfl ?_
    refine XS.iconst X1.here hx rfl (oD hby D49 3 rfl) ?_
    refine XS.iloadN X1.here hx rfl (oD hby D49 4 rfl) rfl ?_
    refine XS.i2b X1.here hx rfl (oD hby D49 5 rfl) rfl ?_
    refine st3 _ ?_
    show Steps _ _ _ (T3.setTop (mkF m 8 #[iv p0] [(.ref b1)])) _
    exact retOut X3 hx Bd.returns rfl (Or.inr (Or.inr (Or.inr (Or.inr ⟨rfl, rfl, rfl⟩)))) (oD hby D49 7 rfl) hr
  · show Q_rmTB Z p0 h0 n0 _ T3.heap _
    rw [e3]
    exact ⟨b1, rfl, N4, K5, z1⟩

theorem ef_rmIB (m : MethodId) (x0 : Addr) (x1 : Addr) (x2 : Int32) : entryFrame m #[(.ref x0), (.ref x1), (.int x2)] 3 = mkF m 0 #[rv x0, rv x1, iv x2] [] := by first | (simp [entryFrame, mkF, argsToLocals, Value.category]; done) | rfl
def Q_rmIB (Z : State) (u0 : Addr) (u1 : Addr) (h0 : Heap) (n0 : Nat) (v : Option Value) (h : Heap) (L : List Loc) : Prop := (v = none ∧ Fr n0 L ∧ Keep h0 h [u0])
theorem rmIB (l : Launch) (Z : State) (a0 : Array Value) (hw : own_W a0 Z) (ws : List Jvm.Cond) (u0 : Addr) (u1 : Addr) (h0 : Heap) (n0 : Nat) (Z0 : n0 ≤ h0.size) (P_E_u0 : Exa Z h0 u0 "java/lang/String") (P_F_u0_String_value : Fld Z h0 u0 "java/lang/String" "value" "[B" .null) (P_F_u0_String_coder : Fld Z h0 u0 "java/lang/String" "coder" "B" (.int (0 : Int32))) (g_u0 : n0 ≤ u0) :
    own_MF l own_y37 (Jvm.Cond.code own_y37 jdk_42_method_151_code 3 none) ws ({ frames := 1, cells := 0, slots := 0, locals := 12 } : Room) #[(.ref u0), (.ref u1), (.int (0 : Int32))] Z h0 (Q_rmIB Z u0 u1 h0 n0) := by
  refine own_enter (n0 := n0) (plainFor_of_name pn_12) (C := "java/lang/String") rfl (fun m => ef_rmIB m u0 u1 (0 : Int32)) fun p e s m below meth c s₁ Bd hx hby hml hown hnm hZ hh X0 e0 N0 pre0 => ?_
  obtain ⟨T1, X1, e1, st1⟩ := initO X0 hx hZ hown (oG hw 11 rfl) (oG hw 12 rfl) (oG hw 13 rfl) e0 (g := (mkF m 1 #[rv u0, rv u1, iv (0 : Int32)] [(.ref u0)])) rfl (by rw [hml]; rfl) rfl (oD hby D50 1 rfl) (by decide) (W := 0) (by show 2 * 0 + _ ≤ _; exact Nat.le_of_eq rfl) (by decide)
  obtain ⟨T2, h2, X2, e2, W2, st2⟩ := putF X1 hx hZ hown (host := "") (Or.inl (oG hw 20 rfl)) Via.refl e1 P_F_u0_String_value P_E_u0 (Or.inr ⟨(oG hw 16 rfl), rfl, hnm⟩) (oG hw 2 rfl) (ty := (.array .byte)) (by decide) rfl rfl (g := (mkF m 6 #[rv u0, rv u1, iv (0 : Int32)] [(.ref u1), (.ref u0)])) rfl rfl (oD hby D50 4 rfl)
  have f2_ : Fld Z h2 u0 "java/lang/String" "value" "[B" (.ref u1) := P_F_u0_String_value.same W2
  have N3 := Fr.snoc X2 N0 g_u0
  have K4 : Keep h0 h2 [u0] := (Keep.refl h0 [u0]).wr W2 (Or.inl (List.mem_of_getElem? (i := 0) rfl))
  have f5 := (P_E_u0.wr W2)
  have f6 := (P_F_u0_String_coder.other W2 (Or.inr (slot_ne (Or.inr (oG hw 17 rfl)) (Or.inr (oG hw 16 rfl)) (by decide) (t := .byte) (t' := (.array .byte)) (by decide) (by decide))))
  obtain ⟨T7, h7, X7, e7, W7, st7⟩ := putFN X2 hx hZ hown (oG hw 21 rfl) Via.refl e2 f6 f5 (Or.inr ⟨(oG hw 17 rfl), rfl, hnm⟩) (oG hw 2 rfl) (ty := .byte) (v' := (.int (0 : Int32))) (by decide) rfl rfl (g := (mkF m 11 #[rv u0, rv u1, iv (0 : Int32)] [(.int (0 : Int32)), (.ref u0)])) rfl rfl (oD hby D50 7 rfl)
  have f7_ : Fld Z h7 u0 "java/lang/String" "coder" "B" (.int (0 : Int32)) := f6.same W7
  have N8 := Fr.snoc X7 N3 g_u0
  have K9 : Keep h0 h7 [u0] := K4.wr W7 (Or.inl (List.mem_of_getElem? (i := 0) rfl))
  obtain ⟨fs, hr, hrun, hended, hW, hsame⟩ := X7.leave (v := none) (fun _ => rfl)
  refine ⟨_, _, pre0 _ ?_, hrun, hended, _, _, rfl, ?_, ⟨_, rfl⟩, hW, hsame.mono (by decide) (by decide)⟩
  · refine XS.aloadN X0.here hx rfl (oD hby D50 0 rfl) rfl rfl ?_
    refine st1 _ ?_
    refine XS.aloadN X1.here hx rfl (oD hby D50 2 rfl) rfl rfl ?_
    refine XS.aloadN X1.here hx rfl (oD hby D50 3 rfl) rfl rfl ?_
    refine st2 _ ?_
    refine XS.aloadN X2.here hx rfl (oD hby D50 5 rfl) rfl rfl ?_
    refine XS.iloadN X2.here hx rfl (oD hby D50 6 rfl) rfl ?_
    refine st7 _ ?_
    show Steps _ _ _ (T7.setTop (mkF m 14 #[rv u0, rv u1, iv (0 : Int32)] [])) _
    exact X7.returnOut hx Bd.returns (oD hby D50 8 rfl) hr
  · show Q_rmIB Z u0 u1 h0 n0 _ T7.heap _
    rw [e7]
    exact ⟨rfl, N8, K9⟩

theorem ef_rmVO (m : MethodId) (x0 : Int32) : entryFrame m #[(.int x0)] 1 = mkF m 0 #[iv x0] [] := by first | (simp [entryFrame, mkF, argsToLocals, Value.category]; done) | rfl
def Q_rmVO (Z : State) (p0 : Int32) (zC : Int32) (h0 : Heap) (n0 : Nat) (v : Option Value) (h : Heap) (L : List Loc) : Prop := ∃ (sg : Addr), (v = (some (.ref sg)) ∧ Fr n0 L ∧ Keep h0 h [] ∧ h0.size ≤ sg)
theorem rmVO (l : Launch) (Z : State) (a0 : Array Value) (hw : own_W a0 Z) (ws : List Jvm.Cond) (p0 : Int32) (zC : Int32) (h0 : Heap) (n0 : Nat) (Z0 : n0 ≤ h0.size) (P_S_String_COMPACT_STRINGS : Sta Z h0 "java/lang/String" "COMPACT_STRINGS" "Z" (.int zC)) (hz : ¬ (zC = (0 : Int32))) (hc8 : ¬ p0 < 0 ∧ ¬ (255 : Int32) < p0) :
    own_MF l own_y38 (Jvm.Cond.code own_y38 jdk_42_method_139_code 1 (some (.object "java/lang/String"))) ws ({ frames := 2, cells := 2, slots := 5, locals := 27 } : Room) #[(.int p0)] Z h0 (Q_rmVO Z p0 zC h0 n0) := by
  refine own_enter (n0 := n0) (plainFor_of_name pn_12) (C := "java/lang/String") rfl (fun m => ef_rmVO m p0) fun p e s m below meth c s₁ Bd hx hby hml hown hnm hZ hh X0 e0 N0 pre0 => ?_
  obtain ⟨T1, X1, e1, st1⟩ := getS2 X0 hx hZ hown (host := "") (Or.inl (oG hw 93 rfl)) Via.refl e0 P_S_String_COMPACT_STRINGS (g := (mkF m 0 #[iv p0] [])) rfl (oD hby D47 0 rfl)
  obtain ⟨_, T2, L2, X2, hQ2, st2⟩ := own_cS X1 hx hown hZ (oG hw 269 rfl) (oG hw 270 rfl) (oG hw 204 rfl) (oG hw 271 rfl) (by decide) (rmCE l Z a0 hw [] p0 h0 n0 Z0 hc8) (W := 0) (by decide) (by decide) (g := (mkF m 7 #[iv p0] [(.int p0)])) rfl (by rw [hml]; rfl) (argsL := [(.int p0)]) (rest := []) (lenOf pd23 rfl) rfl (own_ww rfl) (oD hby D47 3 rfl) e1 rfl (by decide) (by decide)
  obtain ⟨rfl, N2q, e2⟩ := hQ2
  have N2 := Fr.app N0 N2q
  obtain ⟨T3, h3, X3, e3, E3, A3, D3, U3, st3⟩ := newO X2 hx hZ hown (oG hw 272 rfl) (oG hw 2 rfl) (oG hw 3 rfl) e2 (g := (mkF m 13 #[iv p0] [])) rfl (oD hby D47 5 rfl) (by decide) (by decide)
  obtain ⟨b3, g3⟩ : ∃ z, z = h0.size := ⟨_, rfl⟩
  rw [← g3] at A3 D3 U3 st3
  have o3 : n0 ≤ b3 := Nat.le_trans Z0 (Nat.le_of_eq g3.symm)
  have z3 : h0.size ≤ b3 := Nat.le_trans (Keep.refl h0 []).1 (Nat.le_of_eq g3.symm)
  have K3 : Keep h0 h3 [] := (Keep.refl h0 []).ext E3
  have f4 : Fld Z h3 b3 "java/lang/String" "value" "[B" .null := D3 (Or.inr (oG hw 16 rfl)) (ty := (.array .byte)) (by decide)
  have f5 : Fld Z h3 b3 "java/lang/String" "coder" "B" (.int (0 : Int32)) := D3 (Or.inr (oG hw 17 rfl)) (ty := .byte) (by decide)
  have f6 := (Nat.le_trans Z0 E3.1)
  obtain ⟨_, T7, L7, X7, hQ7, st7⟩ := own_cS X3 hx hown hZ (oG hw 273 rfl) (oG hw 274 rfl) (oG hw 204 rfl) (oG hw 275 rfl) (by decide) (rmTB l Z a0 hw [] p0 h3 n0 f6 ) (W := 2) (by decide) (by decide) (g := (mkF m 18 #[iv p0] [(.int p0), (.ref b3), (.ref b3)])) rfl (by rw [hml]; rfl) (argsL := [(.int p0)]) (rest := [(.ref b3), (.ref b3)]) (lenOf pd24 rfl) rfl (own_ww rfl) (oD hby D47 8 rfl) e3 rfl (by decide) (by decide)
  obtain ⟨tb_7, rfl, N7q, K7, sx7_0⟩ := hQ7
  have otb_7 : n0 ≤ tb_7 := Nat.le_trans f6 sx7_0
  have ztb_7 : h0.size ≤ tb_7 := Nat.le_trans K3.1 sx7_0
  have ne8 : b3 ≠ tb_7 := Nat.ne_of_lt (Nat.lt_of_lt_of_le A3.lt sx7_0)
  have KK7 : Keep h0 T7.heap [] := Keep.trans K3 K7 all0
  have N7 := Fr.app N2 N7q
  have f9 := (A3.keep K7)
  have f10 := (f4.keep K7 nin0)
  have f11 := (f5.keep K7 nin0)
  have f12 := (Nat.le_trans f6 K7.1)
  obtain ⟨_, T13, L13, X13, hQ13, st13⟩ := own_cI X7 hx rfl hown hZ (oG hw 276 rfl) (oG hw 277 rfl) (oG hw 3 rfl) (oG hw 278 rfl) (by decide) (rmIB l Z a0 hw [] b3 tb_7 T7.heap n0 f12 f9 f10 f11 o3) (W := 1) (by decide) (by decide) (g := (mkF m 22 #[iv p0] [(.int (0 : Int32)), (.ref tb_7), (.ref b3), (.ref b3)])) rfl (by rw [hml]; rfl) (a := b3) (argsL := [(.ref tb_7), (.int (0 : Int32))]) (rest := [(.ref b3)]) (lenOf pd25 rfl) rfl (own_ww rfl) (oD hby D47 10 rfl) rfl rfl (by decide) (by decide)
  obtain ⟨rfl, N13q, K13⟩ := hQ13
  have KK13 : Keep h0 T13.heap [] := Keep.trans KK7 K13 (allS (Or.inr z3) all0)
  have N13 := Fr.app N7 N13q
  obtain ⟨fs, hr, hrun, hended, hW, hsame⟩ := X13.leave (v := some (.ref b3)) (fun h => by rw [Bd.returns] at h; cases h)
  refine ⟨_, _, pre0 _ ?_, hrun, hended, _, _, rfl, ?_, ⟨_, rfl⟩, hW, hsame.mono (by decide) (by decide)⟩
  · refine st1 _ ?_
    refine XS.ifNo X1.here hx rfl (oD hby D47 1 rfl) rfl ((if0 _ _).trans (feq hz).1) ?_
    refine XS.iloadN X1.here hx rfl (oD hby D47 2 rfl) rfl ?_
    refine st2 _ ?_
    refine XS.ifNo X2.here hx rfl (oD hby D47 4 rfl) rfl ((if0 _ _).trans (feq (by decide : ¬ ((1 : Int32) = (0 : Int32)))).1) ?_
    refine st3 _ ?_
    refine XS.dup X3.here hx rfl (oD hby D47 6 rfl) rfl rfl ?_
    refine XS.iloadN X3.here hx rfl (oD hby D47 7 rfl) rfl ?_
    refine st7 _ ?_
    refine XS.iconst X7.here hx rfl (oD hby D47 9 rfl) ?_
    refine st13 _ ?_
    show Steps _ _ _ (T13.setTop (mkF m 25 #[iv p0] [(.ref b3)])) _
    exact retOut X13 hx Bd.returns rfl (Or.inr (Or.inr (Or.inr (Or.inr ⟨rfl, rfl, rfl⟩)))) (oD hby D47 11 rfl) hr
  · show Q_rmVO Z p0 zC h0 n0 _ T13.heap _
    exact ⟨b3, rfl, N13, KK13, z3⟩

theorem ef_rmRe (m : MethodId) (x0 : Addr) : entryFrame m #[(.ref x0)] 1 = mkF m 0 #[rv x0] [] := by first | (simp [entryFrame, mkF, argsToLocals, Value.category]; done) | rfl
theorem rmRe (l : Launch) (Z : State) (a0 : Array Value) (hw : own_W a0 Z) (ws : List Jvm.Cond) (u0 : Addr) (h0 : Heap) (n0 : Nat) (Z0 : n0 ≤ h0.size) :
    own_MF l own_y39 (Jvm.Cond.code own_y39 jdk_30_method_1_code 1 none) ws ({ frames := 1, cells := 0, slots := 0, locals := 12 } : Room) #[(.ref u0)] Z h0 (own_QP none h0 n0) := by
  refine own_enter (n0 := n0) (plainFor_of_name pn_5) (C := "java/lang/Record") rfl (fun m => ef_rmRe m u0) fun p e s m below meth c s₁ Bd hx hby hml hown hnm hZ hh X0 e0 N0 pre0 => ?_
  obtain ⟨T1, X1, e1, st1⟩ := initO X0 hx hZ hown (oG hw 35 rfl) (oG hw 12 rfl) (oG hw 13 rfl) e0 (g := (mkF m 1 #[rv u0] [(.ref u0)])) rfl (by rw [hml]; rfl) rfl (oD hby D5 1 rfl) (by decide) (W := 0) (by show 2 * 0 + _ ≤ _; exact Nat.le_of_eq rfl) (by decide)
  obtain ⟨fs, hr, hrun, hended, hW, hsame⟩ := X1.leave (v := none) (fun _ => rfl)
  refine ⟨_, _, pre0 _ ?_, hrun, hended, _, _, rfl, ?_, ⟨_, rfl⟩, hW, hsame.mono (by decide) (by decide)⟩
  · refine XS.aloadN X0.here hx rfl (oD hby D5 0 rfl) rfl rfl ?_
    refine st1 _ ?_
    show Steps _ _ _ (T1.setTop (mkF m 4 #[rv u0] [])) _
    exact X1.returnOut hx Bd.returns (oD hby D5 2 rfl) hr
  · show own_QP none h0 n0 _ T1.heap _
    rw [e1]
    exact ⟨rfl, N0, rfl⟩

theorem ef_rmRI0 (m : MethodId) (x0 : Addr) (x1 : Int32) (x2 : Addr) (x3 : Int32) (x6 : Int32) : entryFrame m #[(.ref x0), (.int x1), (.ref x2), (.int x3), .null, .null, (.int x6)] 7 = mkF m 0 #[rv x0, iv x1, rv x2, iv x3, .val .null, .val .null, iv x6] [] := by first | (simp [entryFrame, mkF, argsToLocals, Value.category]; done) | rfl
def Q_rmRI0 (Z : State) (u0 : Addr) (p1 : Int32) (u2 : Addr) (p3 : Int32) (p6 : Int32) (h0 : Heap) (n0 : Nat) (v : Option Value) (h : Heap) (L : List Loc) : Prop := (v = none ∧ Fr n0 L ∧ Keep h0 h [u0] ∧ Fld Z h u0 "com/example/fastpath/fastpath/settings/RedisServer" "tls" "Z" (.int p1) ∧ Fld Z h u0 "com/example/fastpath/fastpath/settings/RedisServer" "host" "Ljava/lang/String;" (.ref u2) ∧ Fld Z h u0 "com/example/fastpath/fastpath/settings/RedisServer" "port" "I" (.int p3) ∧ Fld Z h u0 "com/example/fastpath/fastpath/settings/RedisServer" "password" "Ljava/lang/String;" .null ∧ Fld Z h u0 "com/example/fastpath/fastpath/settings/RedisServer" "database" "I" (.int p6))
theorem rmRI0 (l : Launch) (Z : State) (a0 : Array Value) (hw : own_W a0 Z) (ws : List Jvm.Cond) (u0 : Addr) (p1 : Int32) (u2 : Addr) (p3 : Int32) (p6 : Int32) (h0 : Heap) (n0 : Nat) (Z0 : n0 ≤ h0.size) (P_E_u0 : Exa Z h0 u0 "com/example/fastpath/fastpath/settings/RedisServer") (P_F_u0_RedisServer_tls : Fld Z h0 u0 "com/example/fastpath/fastpath/settings/RedisServer" "tls" "Z" (.int (0 : Int32))) (P_F_u0_RedisServer_host : Fld Z h0 u0 "com/example/fastpath/fastpath/settings/RedisServer" "host" "Ljava/lang/String;" .null) (P_F_u0_RedisServer_port : Fld Z h0 u0 "com/example/fastpath/fastpath/settings/RedisServer" "port" "I" (.int (0 : Int32))) (P_F_u0_RedisServer_user : Fld Z h0 u0 "com/example/fastpath/fastpath/settings/RedisServer" "user" "Ljava/lang/String;" .null) (P_F_u0_RedisServer_password : Fld Z h0 u0 "com/example/fastpath/fastpath/settings/RedisServer" "password" "Ljava/lang/String;" .null) (P_F_u0_RedisServer_database : Fld Z h0 u0 "com/example/fastpath/fastpath/settings/RedisServer" "database" "I" (.int (0 : Int32))) (hbo : p1 = (0 : Int32) ∨ p1 = (1 : Int32)) (g_u0 : n0 ≤ u0) :
    own_MF l own_y40 (Jvm.Cond.code own_y40 prog_20_method_1_code 7 none) ws ({ frames := 2, cells := 0, slots := 0, locals := 24 } : Room) #[(.ref u0), (.int p1), (.ref u2), (.int p3), .null, .null, (.int p6)] Z h0 (Q_rmRI0 Z u0 p1 u2 p3 p6 h0 n0) := by
  refine own_enter (n0 := n0) (plainFor_of_name pn_4) (C := "com/example/fastpath/fastpath/settings/RedisServer") rfl (fun m => ef_rmRI0 m u0 p1 u2 p3 p6) fun p e s m below meth c s₁ Bd hx hby hml hown hnm hZ hh X0 e0 N0 pre0 => ?_
  obtain ⟨_, T1, L1, X1, hQ1, st1⟩ := own_cI X0 hx rfl hown hZ (oG hw 30 rfl) (oG hw 31 rfl) (oG hw 33 rfl) (oG hw 34 rfl) (by decide) (rmRe l Z a0 hw [] u0 h0 n0 Z0 ) (W := 0) (by decide) (by decide) (g := (mkF m 1 #[rv u0, iv p1, rv u2, iv p3, .val .null, .val .null, iv p6] [(.ref u0)])) rfl (by rw [hml]; rfl) (a := u0) (argsL := []) (rest := []) (lenOf pd26 rfl) rfl (own_ww rfl) (oD hby D4 1 rfl) e0 rfl (by decide) (by decide)
  obtain ⟨rfl, N1q, e1⟩ := hQ1
  have N1 := Fr.app N0 N1q
  obtain ⟨T2, h2, X2, e2, W2, st2⟩ := putFN X1 hx hZ hown (oG hw 36 rfl) Via.refl e1 P_F_u0_RedisServer_tls P_E_u0 (Or.inr ⟨(oG hw 37 rfl), rfl, hnm⟩) (oG hw 25 rfl) (ty := .boolean) (v' := (.int p1)) (by decide) (own_nb hbo) (own_fb hbo) (g := (mkF m 6 #[rv u0, iv p1, rv u2, iv p3, .val .null, .val .null, iv p6] [(.int p1), (.ref u0)])) rfl rfl (oD hby D4 4 rfl)
  have f2_ : Fld Z h2 u0 "com/example/fastpath/fastpath/settings/RedisServer" "tls" "Z" (.int p1) := P_F_u0_RedisServer_tls.same W2
  have N3 := Fr.snoc X2 N1 g_u0
  have K4 : Keep h0 h2 [u0] := (Keep.refl h0 [u0]).wr W2 (Or.inl (List.mem_of_getElem? (i := 0) rfl))
  have f5 := (P_E_u0.wr W2)
  have f6 := (P_F_u0_RedisServer_host.other W2 (Or.inr (slot_ne (Or.inr (oG hw 39 rfl)) (Or.inr (oG hw 37 rfl)) (by decide) (t := (.object "java/lang/String")) (t' := .boolean) (by decide) (by decide))))
  obtain ⟨T7, h7, X7, e7, W7, st7⟩ := putF X2 hx hZ hown (host := "") (Or.inl (oG hw 38 rfl)) Via.refl e2 f6 f5 (Or.inr ⟨(oG hw 39 rfl), rfl, hnm⟩) (oG hw 25 rfl) (ty := (.object "java/lang/String")) (by decide) rfl rfl (g := (mkF m 11 #[rv u0, iv p1, rv u2, iv p3, .val .null, .val .null, iv p6] [(.ref u2), (.ref u0)])) rfl rfl (oD hby D4 7 rfl)
  have f7_ : Fld Z h7 u0 "com/example/fastpath/fastpath/settings/RedisServer" "host" "Ljava/lang/String;" (.ref u2) := f6.same W7
  have N8 := Fr.snoc X7 N3 g_u0
  have K9 : Keep h0 h7 [u0] := K4.wr W7 (Or.inl (List.mem_of_getElem? (i := 0) rfl))
  have f10 := (f5.wr W7)
  have f11 := ((P_F_u0_RedisServer_port.other W2 (Or.inr (slot_ne (Or.inr (oG hw 41 rfl)) (Or.inr (oG hw 37 rfl)) (by decide) (t := .int) (t' := .boolean) (by decide) (by decide)))).other W7 (Or.inr (slot_ne (Or.inr (oG hw 41 rfl)) (Or.inr (oG hw 39 rfl)) (by decide) (t := .int) (t' := (.object "java/lang/String")) (by decide) (by decide))))
  obtain ⟨T12, h12, X12, e12, W12, st12⟩ := putF X7 hx hZ hown (host := "") (Or.inl (oG hw 40 rfl)) Via.refl e7 f11 f10 (Or.inr ⟨(oG hw 41 rfl), rfl, hnm⟩) (oG hw 25 rfl) (ty := .int) (by decide) rfl rfl (g := (mkF m 16 #[rv u0, iv p1, rv u2, iv p3, .val .null, .val .null, iv p6] [(.int p3), (.ref u0)])) rfl rfl (oD hby D4 10 rfl)
  have f12_ : Fld Z h12 u0 "com/example/fastpath/fastpath/settings/RedisServer" "port" "I" (.int p3) := f11.same W12
  have N13 := Fr.snoc X12 N8 g_u0
  have K14 : Keep h0 h12 [u0] := K9.wr W12 (Or.inl (List.mem_of_getElem? (i := 0) rfl))
  have f15 := (f10.wr W12)
  have f16 := (((P_F_u0_RedisServer_user.other W2 (Or.inr (slot_ne (Or.inr (oG hw 43 rfl)) (Or.inr (oG hw 37 rfl)) (by decide) (t := (.object "java/lang/String")) (t' := .boolean) (by decide) (by decide)))).other W7 (Or.inr (slot_ne (Or.inr (oG hw 43 rfl)) (Or.inr (oG hw 39 rfl)) (by decide) (t := (.object "java/lang/String")) (t' := (.object "java/lang/String")) (by decide) (by decide)))).other W12 (Or.inr (slot_ne (Or.inr (oG hw 43 rfl)) (Or.inr (oG hw 41 rfl)) (by decide) (t := (.object "java/lang/String")) (t' := .int) (by decide) (by decide))))
  obtain ⟨T17, h17, X17, e17, W17, st17⟩ := putF X12 hx hZ hown (host := "") (Or.inl (oG hw 42 rfl)) Via.refl e12 f16 f15 (Or.inr ⟨(oG hw 43 rfl), rfl, hnm⟩) (oG hw 25 rfl) (ty := (.object "java/lang/String")) (by decide) rfl rfl (g := (mkF m 22 #[rv u0, iv p1, rv u2, iv p3, .val .null, .val .null, iv p6] [.null, (.ref u0)])) rfl rfl (oD hby D4 13 rfl)
  have f17_ : Fld Z h17 u0 "com/example/fastpath/fastpath/settings/RedisServer" "user" "Ljava/lang/String;" .null := f16.same W17
  have N18 := Fr.snoc X17 N13 g_u0
  have K19 : Keep h0 h17 [u0] := K14.wr W17 (Or.inl (List.mem_of_getElem? (i := 0) rfl))
  have f20 := (f15.wr W17)
  have f21 := ((((P_F_u0_RedisServer_password.other W2 (Or.inr (slot_ne (Or.inr (oG hw 45 rfl)) (Or.inr (oG hw 37 rfl)) (by decide) (t := (.object "java/lang/String")) (t' := .boolean) (by decide) (by decide)))).other W7 (Or.inr (slot_ne (Or.inr (oG hw 45 rfl)) (Or.inr (oG hw 39 rfl)) (by decide) (t := (.object "java/lang/String")) (t' := (.object "java/lang/String")) (by decide) (by decide)))).other W12 (Or.inr (slot_ne (Or.inr (oG hw 45 rfl)) (Or.inr (oG hw 41 rfl)) (by decide) (t := (.object "java/lang/String")) (t' := .int) (by decide) (by decide)))).other W17 (Or.inr (slot_ne (Or.inr (oG hw 45 rfl)) (Or.inr (oG hw 43 rfl)) (by decide) (t := (.object "java/lang/String")) (t' := (.object "java/lang/String")) (by decide) (by decide))))
  obtain ⟨T22, h22, X22, e22, W22, st22⟩ := putF X17 hx hZ hown (host := "") (Or.inl (oG hw 44 rfl)) Via.refl e17 f21 f20 (Or.inr ⟨(oG hw 45 rfl), rfl, hnm⟩) (oG hw 25 rfl) (ty := (.object "java/lang/String")) (by decide) rfl rfl (g := (mkF m 28 #[rv u0, iv p1, rv u2, iv p3, .val .null, .val .null, iv p6] [.null, (.ref u0)])) rfl rfl (oD hby D4 16 rfl)
  have f22_ : Fld Z h22 u0 "com/example/fastpath/fastpath/settings/RedisServer" "password" "Ljava/lang/String;" .null := f21.same W22
  have N23 := Fr.snoc X22 N18 g_u0
  have K24 : Keep h0 h22 [u0] := K19.wr W22 (Or.inl (List.mem_of_getElem? (i := 0) rfl))
  have f25 := (f20.wr W22)
  have f26 := (((((P_F_u0_RedisServer_database.other W2 (Or.inr (slot_ne (Or.inr (oG hw 47 rfl)) (Or.inr (oG hw 37 rfl)) (by decide) (t := .int) (t' := .boolean) (by decide) (by decide)))).other W7 (Or.inr (slot_ne (Or.inr (oG hw 47 rfl)) (Or.inr (oG hw 39 rfl)) (by decide) (t := .int) (t' := (.object "java/lang/String")) (by decide) (by decide)))).other W12 (Or.inr (slot_ne (Or.inr (oG hw 47 rfl)) (Or.inr (oG hw 41 rfl)) (by decide) (t := .int) (t' := .int) (by decide) (by decide)))).other W17 (Or.inr (slot_ne (Or.inr (oG hw 47 rfl)) (Or.inr (oG hw 43 rfl)) (by decide) (t := .int) (t' := (.object "java/lang/String")) (by decide) (by decide)))).other W22 (Or.inr (slot_ne (Or.inr (oG hw 47 rfl)) (Or.inr (oG hw 45 rfl)) (by decide) (t := .int) (t' := (.object "java/lang/String")) (by decide) (by decide))))
  obtain ⟨T27, h27, X27, e27, W27, st27⟩ := putF X22 hx hZ hown (host := "") (Or.inl (oG hw 46 rfl)) Via.refl e22 f26 f25 (Or.inr ⟨(oG hw 47 rfl), rfl, hnm⟩) (oG hw 25 rfl) (ty := .int) (by decide) rfl rfl (g := (mkF m 34 #[rv u0, iv p1, rv u2, iv p3, .val .null, .val .null, iv p6] [(.int p6), (.ref u0)])) rfl rfl (oD hby D4 19 rfl)
  have f27_ : Fld Z h27 u0 "com/example/fastpath/fastpath/settings/RedisServer" "database" "I" (.int p6) := f26.same W27
  have N28 := Fr.snoc X27 N23 g_u0
  have K29 : Keep h0 h27 [u0] := K24.wr W27 (Or.inl (List.mem_of_getElem? (i := 0) rfl))
  obtain ⟨fs, hr, hrun, hended, hW, hsame⟩ := X27.leave (v := none) (fun _ => rfl)
  have f30 := (((((f2_.other W7 (Or.inr (slot_ne (Or.inr (oG hw 37 rfl)) (Or.inr (oG hw 39 rfl)) (by decide) (t := .boolean) (t' := (.object "java/lang/String")) (by decide) (by decide)))).other W12 (Or.inr (slot_ne (Or.inr (oG hw 37 rfl)) (Or.inr (oG hw 41 rfl)) (by decide) (t := .boolean) (t' := .int) (by decide) (by decide)))).other W17 (Or.inr (slot_ne (Or.inr (oG hw 37 rfl)) (Or.inr (oG hw 43 rfl)) (by decide) (t := .boolean) (t' := (.object "java/lang/String")) (by decide) (by decide)))).other W22 (Or.inr (slot_ne (Or.inr (oG hw 37 rfl)) (Or.inr (oG hw 45 rfl)) (by decide) (t := .boolean) (t' := (.object "java/lang/String")) (by decide) (by decide)))).other W27 (Or.inr (slot_ne (Or.inr (oG hw 37 rfl)) (Or.inr (oG hw 47 rfl)) (by decide) (t := .boolean) (t' := .int) (by decide) (by decide))))
  have f31 := ((((f7_.other W12 (Or.inr (slot_ne (Or.inr (oG hw 39 rfl)) (Or.inr (oG hw 41 rfl)) (by decide) (t := (.object "java/lang/String")) (t' := .int) (by decide) (by decide)))).other W17 (Or.inr (slot_ne (Or.inr (oG hw 39 rfl)) (Or.inr (oG hw 43 rfl)) (by decide) (t := (.object "java/lang/String")) (t' := (.object "java/lang/String")) (by decide) (by decide)))).other W22 (Or.inr (slot_ne (Or.inr (oG hw 39 rfl)) (Or.inr (oG hw 45 rfl)) (by decide) (t := (.object "java/lang/String")) (t' := (.object "java/lang/String")) (by decide) (by decide)))).other W27 (Or.inr (slot_ne (Or.inr (oG hw 39 rfl)) (Or.inr (oG hw 47 rfl)) (by decide) (t := (.object "java/lang/String")) (t' := .int) (by decide) (by decide))))
  have f32 := (((f12_.other W17 (Or.inr (slot_ne (Or.inr (oG hw 41 rfl)) (Or.inr (oG hw 43 rfl)) (by decide) (t := .int) (t' := (.object "java/lang/String")) (by decide) (by decide)))).other W22 (Or.inr (slot_ne (Or.inr (oG hw 41 rfl)) (Or.inr (oG hw 45 rfl)) (by decide) (t := .int) (t' := (.object "java/lang/String")) (by decide) (by decide)))).other W27 (Or.inr (slot_ne (Or.inr (oG hw 41 rfl)) (Or.inr (oG hw 47 rfl)) (by decide) (t := .int) (t' := .int) (by decide) (by decide))))
  have f33 := (f22_.other W27 (Or.inr (slot_ne (Or.inr (oG hw 45 rfl)) (Or.inr (oG hw 47 rfl)) (by decide) (t := (.object "java/lang/String")) (t' := .int) (by decide) (by decide))))
  refine ⟨_, _, pre0 _ ?_, hrun, hended, _, _, rfl, ?_, ⟨_, rfl⟩, hW, hsame.mono (by decide) (by decide)⟩
  · refine XS.aloadN X0.here hx rfl (oD hby D4 0 rfl) rfl rfl ?_
    refine st1 _ ?_
    refine XS.aloadN X1.here hx rfl (oD hby D4 2 rfl) rfl rfl ?_
    refine XS.iloadN X1.here hx rfl (oD hby D4 3 rfl) rfl ?_
    refine st2 _ ?_
    refine XS.aloadN X2.here hx rfl (oD hby D4 5 rfl) rfl rfl ?_
    refine XS.aloadN X2.here hx rfl (oD hby D4 6 rfl) rfl rfl ?_
    refine st7 _ ?_
    refine XS.aloadN X7.here hx rfl (oD hby D4 8 rfl) rfl rfl ?_
    refine XS.iloadN X7.here hx rfl (oD hby D4 9 rfl) rfl ?_
    refine st12 _ ?_
    refine XS.aloadN X12.here hx rfl (oD hby D4 11 rfl) rfl rfl ?_
    refine XS.aload X12.here hx rfl (oD hby D4 12 rfl) rfl rfl ?_
    refine st17 _ ?_
    refine XS.aloadN X17.here hx rfl (oD hby D4 14 rfl) rfl rfl ?_
    refine XS.aload X17.here hx rfl (oD hby D4 15 rfl) rfl rfl ?_
    refine st22 _ ?_
    refine XS.aloadN X22.here hx rfl (oD hby D4 17 rfl) rfl rfl ?_
    refine XS.iload X22.here hx rfl (oD hby D4 18 rfl) rfl ?_
    refine st27 _ ?_
    show Steps _ _ _ (T27.setTop (mkF m 37 #[rv u0, iv p1, rv u2, iv p3, .val .null, .val .null, iv p6] [])) _
    exact X27.returnOut hx Bd.returns (oD hby D4 20 rfl) hr
  · show Q_rmRI0 Z u0 p1 u2 p3 p6 h0 n0 _ T27.heap _
    rw [e27]
    exact ⟨rfl, N28, K29, f30, f31, f32, f33, f27_⟩

theorem ef_rmRI1 (m : MethodId) (x0 : Addr) (x1 : Int32) (x2 : Addr) (x3 : Int32) (x5 : Addr) (x6 : Int32) : entryFrame m #[(.ref x0), (.int x1), (.ref x2), (.int x3), .null, (.ref x5), (.int x6)] 7 = mkF m 0 #[rv x0, iv x1, rv x2, iv x3, .val .null, rv x5, iv x6] [] := by first | (simp [entryFrame, mkF, argsToLocals, Value.category]; done) | rfl
def Q_rmRI1 (Z : State) (u0 : Addr) (p1 : Int32) (u2 : Addr) (p3 : Int32) (u5 : Addr) (p6 : Int32) (h0 : Heap) (n0 : Nat) (v : Option Value) (h : Heap) (L : List Loc) : Prop := (v = none ∧ Fr n0 L ∧ Keep h0 h [u0] ∧ Fld Z h u0 "com/example/fastpath/fastpath/settings/RedisServer" "tls" "Z" (.int p1) ∧ Fld Z h u0 "com/example/fastpath/fastpath/settings/RedisServer" "host" "Ljava/lang/String;" (.ref u2) ∧ Fld Z h u0 "com/example/fastpath/fastpath/settings/RedisServer" "port" "I" (.int p3) ∧ Fld Z h u0 "com/example/fastpath/fastpath/settings/RedisServer" "password" "Ljava/lang/String;" (.ref u5) ∧ Fld Z h u0 "com/example/fastpath/fastpath/settings/RedisServer" "database" "I" (.int p6))
theorem rmRI1 (l : Launch) (Z : State) (a0 : Array Value) (hw : own_W a0 Z) (ws : List Jvm.Cond) (u0 : Addr) (p1 : Int32) (u2 : Addr) (p3 : Int32) (u5 : Addr) (p6 : Int32) (h0 : Heap) (n0 : Nat) (Z0 : n0 ≤ h0.size) (P_E_u0 : Exa Z h0 u0 "com/example/fastpath/fastpath/settings/RedisServer") (P_F_u0_RedisServer_tls : Fld Z h0 u0 "com/example/fastpath/fastpath/settings/RedisServer" "tls" "Z" (.int (0 : Int32))) (P_F_u0_RedisServer_host : Fld Z h0 u0 "com/example/fastpath/fastpath/settings/RedisServer" "host" "Ljava/lang/String;" .null) (P_F_u0_RedisServer_port : Fld Z h0 u0 "com/example/fastpath/fastpath/settings/RedisServer" "port" "I" (.int (0 : Int32))) (P_F_u0_RedisServer_user : Fld Z h0 u0 "com/example/fastpath/fastpath/settings/RedisServer" "user" "Ljava/lang/String;" .null) (P_F_u0_RedisServer_password : Fld Z h0 u0 "com/example/fastpath/fastpath/settings/RedisServer" "password" "Ljava/lang/String;" .null) (P_F_u0_RedisServer_database : Fld Z h0 u0 "com/example/fastpath/fastpath/settings/RedisServer" "database" "I" (.int (0 : Int32))) (hbo : p1 = (0 : Int32) ∨ p1 = (1 : Int32)) (g_u0 : n0 ≤ u0) :
    own_MF l own_y40 (Jvm.Cond.code own_y40 prog_20_method_1_code 7 none) ws ({ frames := 2, cells := 0, slots := 0, locals := 24 } : Room) #[(.ref u0), (.int p1), (.ref u2), (.int p3), .null, (.ref u5), (.int p6)] Z h0 (Q_rmRI1 Z u0 p1 u2 p3 u5 p6 h0 n0) := by
  refine own_enter (n0 := n0) (plainFor_of_name pn_4) (C := "com/example/fastpath/fastpath/settings/RedisServer") rfl (fun m => ef_rmRI1 m u0 p1 u2 p3 u5 p6) fun p e s m below meth c s₁ Bd hx hby hml hown hnm hZ hh X0 e0 N0 pre0 => ?_
  obtain ⟨_, T1, L1, X1, hQ1, st1⟩ := own_cI X0 hx rfl hown hZ (oG hw 30 rfl) (oG hw 31 rfl) (oG hw 33 rfl) (oG hw 34 rfl) (by decide) (rmRe l Z a0 hw [] u0 h0 n0 Z0 ) (W := 0) (by decide) (by decide) (g := (mkF m 1 #[rv u0, iv p1, rv u2, iv p3, .val .null, rv u5, iv p6] [(.ref u0)])) rfl (by rw [hml]; rfl) (a := u0) (argsL := []) (rest := []) (lenOf pd26 rfl) rfl (own_ww rfl) (oD hby D4 1 rfl) e0 rfl (by decide) (by decide)
  obtain ⟨rfl, N1q, e1⟩ := hQ1
  have N1 := Fr.app N0 N1q
  obtain ⟨T2, h2, X2, e2, W2, st2⟩ := putFN X1 hx hZ hown (oG hw 36 rfl) Via.refl e1 P_F_u0_RedisServer_tls P_E_u0 (Or.inr ⟨(oG hw 37 rfl), rfl, hnm⟩) (oG hw 25 rfl) (ty := .boolean) (v' := (.int p1)) (by decide) (own_nb hbo) (own_fb hbo) (g := (mkF m 6 #[rv u0, iv p1, rv u2, iv p3, .val .null, rv u5, iv p6] [(.int p1), (.ref u0)])) rfl rfl (oD hby D4 4 rfl)
  have f2_ : Fld Z h2 u0 "com/example/fastpath/fastpath/settings/RedisServer" "tls" "Z" (.int p1) := P_F_u0_RedisServer_tls.same W2
  have N3 := Fr.snoc X2 N1 g_u0
  have K4 : Keep h0 h2 [u0] := (Keep.refl h0 [u0]).wr W2 (Or.inl (List.mem_of_getElem? (i := 0) rfl))
  have f5 := (P_E_u0.wr W2)
  have f6 := (P_F_u0_RedisServer_host.other W2 (Or.inr (slot_ne (Or.inr (oG hw 39 rfl)) (Or.inr (oG hw 37 rfl)) (by decide) (t := (.object "java/lang/String")) (t' := .boolean) (by decide) (by decide))))
  obtain ⟨T7, h7, X7, e7, W7, st7⟩ := putF X2 hx hZ hown (host := "") (Or.inl (oG hw 38 rfl)) Via.refl e2 f6 f5 (Or.inr ⟨(oG hw 39 rfl), rfl, hnm⟩) (oG hw 25 rfl) (ty := (.object "java/lang/String")) (by decide) rfl rfl (g := (mkF m 11 #[rv u0, iv p1, rv u2, iv p3, .val .null, rv u5, iv p6] [(.ref u2), (.ref u0)])) rfl rfl (oD hby D4 7 rfl)
  have f7_ : Fld Z h7 u0 "com/example/fastpath/fastpath/settings/RedisServer" "host" "Ljava/lang/String;" (.ref u2) := f6.same W7
  have N8 := Fr.snoc X7 N3 g_u0
  have K9 : Keep h0 h7 [u0] := K4.wr W7 (Or.inl (List.mem_of_getElem? (i := 0) rfl))
  have f10 := (f5.wr W7)
  have f11 := ((P_F_u0_RedisServer_port.other W2 (Or.inr (slot_ne (Or.inr (oG hw 41 rfl)) (Or.inr (oG hw 37 rfl)) (by decide) (t := .int) (t' := .boolean) (by decide) (by decide)))).other W7 (Or.inr (slot_ne (Or.inr (oG hw 41 rfl)) (Or.inr (oG hw 39 rfl)) (by decide) (t := .int) (t' := (.object "java/lang/String")) (by decide) (by decide))))
  obtain ⟨T12, h12, X12, e12, W12, st12⟩ := putF X7 hx hZ hown (host := "") (Or.inl (oG hw 40 rfl)) Via.refl e7 f11 f10 (Or.inr ⟨(oG hw 41 rfl), rfl, hnm⟩) (oG hw 25 rfl) (ty := .int) (by decide) rfl rfl (g := (mkF m 16 #[rv u0, iv p1, rv u2, iv p3, .val .null, rv u5, iv p6] [(.int p3), (.ref u0)])) rfl rfl (oD hby D4 10 rfl)
  have f12_ : Fld Z h12 u0 "com/example/fastpath/fastpath/settings/RedisServer" "port" "I" (.int p3) := f11.same W12
  have N13 := Fr.snoc X12 N8 g_u0
  have K14 : Keep h0 h12 [u0] := K9.wr W12 (Or.inl (List.mem_of_getElem? (i := 0) rfl))
  have f15 := (f10.wr W12)
  have f16 := (((P_F_u0_RedisServer_user.other W2 (Or.inr (slot_ne (Or.inr (oG hw 43 rfl)) (Or.inr (oG hw 37 rfl)) (by decide) (t := (.object "java/lang/String")) (t' := .boolean) (by decide) (by decide)))).other W7 (Or.inr (slot_ne (Or.inr (oG hw 43 rfl)) (Or.inr (oG hw 39 rfl)) (by decide) (t := (.object "java/lang/String")) (t' := (.object "java/lang/String")) (by decide) (by decide)))).other W12 (Or.inr (slot_ne (Or.inr (oG hw 43 rfl)) (Or.inr (oG hw 41 rfl)) (by decide) (t := (.object "java/lang/String")) (t' := .int) (by decide) (by decide))))
  obtain ⟨T17, h17, X17, e17, W17, st17⟩ := putF X12 hx hZ hown (host := "") (Or.inl (oG hw 42 rfl)) Via.refl e12 f16 f15 (Or.inr ⟨(oG hw 43 rfl), rfl, hnm⟩) (oG hw 25 rfl) (ty := (.object "java/lang/String")) (by decide) rfl rfl (g := (mkF m 22 #[rv u0, iv p1, rv u2, iv p3, .val .null, rv u5, iv p6] [.null, (.ref u0)])) rfl rfl (oD hby D4 13 rfl)
  have f17_ : Fld Z h17 u0 "com/example/fastpath/fastpath/settings/RedisServer" "user" "Ljava/lang/String;" .null := f16.same W17
  have N18 := Fr.snoc X17 N13 g_u0
  have K19 : Keep h0 h17 [u0] := K14.wr W17 (Or.inl (List.mem_of_getElem? (i := 0) rfl))
  have f20 := (f15.wr W17)
  have f21 := ((((P_F_u0_RedisServer_password.other W2 (Or.inr (slot_ne (Or.inr (oG hw 45 rfl)) (Or.inr (oG hw 37 rfl)) (by decide) (t := (.object "java/lang/String")) (t' := .boolean) (by decide) (by decide)))).other W7 (Or.inr (slot_ne (Or.inr (oG hw 45 rfl)) (Or.inr (oG hw 39 rfl)) (by decide) (t := (.object "java/lang/String")) (t' := (.object "java/lang/String")) (by decide) (by decide)))).other W12 (Or.inr (slot_ne (Or.inr (oG hw 45 rfl)) (Or.inr (oG hw 41 rfl)) (by decide) (t := (.object "java/lang/String")) (t' := .int) (by decide) (by decide)))).other W17 (Or.inr (slot_ne (Or.inr (oG hw 45 rfl)) (Or.inr (oG hw 43 rfl)) (by decide) (t := (.object "java/lang/String")) (t' := (.object "java/lang/String")) (by decide) (by decide))))
  obtain ⟨T22, h22, X22, e22, W22, st22⟩ := putF X17 hx hZ hown (host := "") (Or.inl (oG hw 44 rfl)) Via.refl e17 f21 f20 (Or.inr ⟨(oG hw 45 rfl), rfl, hnm⟩) (oG hw 25 rfl) (ty := (.object "java/lang/String")) (by decide) rfl rfl (g := (mkF m 28 #[rv u0, iv p1, rv u2, iv p3, .val .null, rv u5, iv p6] [(.ref u5), (.ref u0)])) rfl rfl (oD hby D4 16 rfl)
  have f22_ : Fld Z h22 u0 "com/example/fastpath/fastpath/settings/RedisServer" "password" "Ljava/lang/String;" (.ref u5) := f21.same W22
  have N23 := Fr.snoc X22 N18 g_u0
  have K24 : Keep h0 h22 [u0] := K19.wr W22 (Or.inl (List.mem_of_getElem? (i := 0) rfl))
  have f25 := (f20.wr W22)
  have f26 := (((((P_F_u0_RedisServer_database.other W2 (Or.inr (slot_ne (Or.inr (oG hw 47 rfl)) (Or.inr (oG hw 37 rfl)) (by decide) (t := .int) (t' := .boolean) (by decide) (by decide)))).other W7 (Or.inr (slot_ne (Or.inr (oG hw 47 rfl)) (Or.inr (oG hw 39 rfl)) (by decide) (t := .int) (t' := (.object "java/lang/String")) (by decide) (by decide)))).other W12 (Or.inr (slot_ne (Or.inr (oG hw 47 rfl)) (Or.inr (oG hw 41 rfl)) (by decide) (t := .int) (t' := .int) (by decide) (by decide)))).other W17 (Or.inr (slot_ne (Or.inr (oG hw 47 rfl)) (Or.inr (oG hw 43 rfl)) (by decide) (t := .int) (t' := (.object "java/lang/String")) (by decide) (by decide)))).other W22 (Or.inr (slot_ne (Or.inr (oG hw 47 rfl)) (Or.inr (oG hw 45 rfl)) (by decide) (t := .int) (t' := (.object "java/lang/String")) (by decide) (by decide))))
  obtain ⟨T27, h27, X27, e27, W27, st27⟩ := putF X22 hx hZ hown (host := "") (Or.inl (oG hw 46 rfl)) Via.refl e22 f26 f25 (Or.inr ⟨(oG hw 47 rfl), rfl, hnm⟩) (oG hw 25 rfl) (ty := .int) (by decide) rfl rfl (g := (mkF m 34 #[rv u0, iv p1, rv u2, iv p3, .val .null, rv u5, iv p6] [(.int p6), (.ref u0)])) rfl rfl (oD hby D4 19 rfl)
  have f27_ : Fld Z h27 u0 "com/example/fastpath/fastpath/settings/RedisServer" "database" "I" (.int p6) := f26.same W27
  have N28 := Fr.snoc X27 N23 g_u0
  have K29 : Keep h0 h27 [u0] := K24.wr W27 (Or.inl (List.mem_of_getElem? (i := 0) rfl))
  obtain ⟨fs, hr, hrun, hended, hW, hsame⟩ := X27.leave (v := none) (fun _ => rfl)
  have f30 := (((((f2_.other W7 (Or.inr (slot_ne (Or.inr (oG hw 37 rfl)) (Or.inr (oG hw 39 rfl)) (by decide) (t := .boolean) (t' := (.object "java/lang/String")) (by decide) (by decide)))).other W12 (Or.inr (slot_ne (Or.inr (oG hw 37 rfl)) (Or.inr (oG hw 41 rfl)) (by decide) (t := .boolean) (t' := .int) (by decide) (by decide)))).other W17 (Or.inr (slot_ne (Or.inr (oG hw 37 rfl)) (Or.inr (oG hw 43 rfl)) (by decide) (t := .boolean) (t' := (.object "java/lang/String")) (by decide) (by decide)))).other W22 (Or.inr (slot_ne (Or.inr (oG hw 37 rfl)) (Or.inr (oG hw 45 rfl)) (by decide) (t := .boolean) (t' := (.object "java/lang/String")) (by decide) (by decide)))).other W27 (Or.inr (slot_ne (Or.inr (oG hw 37 rfl)) (Or.inr (oG hw 47 rfl)) (by decide) (t := .boolean) (t' := .int) (by decide) (by decide))))
  have f31 := ((((f7_.other W12 (Or.inr (slot_ne (Or.inr (oG hw 39 rfl)) (Or.inr (oG hw 41 rfl)) (by decide) (t := (.object "java/lang/String")) (t' := .int) (by decide) (by decide)))).other W17 (Or.inr (slot_ne (Or.inr (oG hw 39 rfl)) (Or.inr (oG hw 43 rfl)) (by decide) (t := (.object "java/lang/String")) (t' := (.object "java/lang/String")) (by decide) (by decide)))).other W22 (Or.inr (slot_ne (Or.inr (oG hw 39 rfl)) (Or.inr (oG hw 45 rfl)) (by decide) (t := (.object "java/lang/String")) (t' := (.object "java/lang/String")) (by decide) (by decide)))).other W27 (Or.inr (slot_ne (Or.inr (oG hw 39 rfl)) (Or.inr (oG hw 47 rfl)) (by decide) (t := (.object "java/lang/String")) (t' := .int) (by decide) (by decide))))
  have f32 := (((f12_.other W17 (Or.inr (slot_ne (Or.inr (oG hw 41 rfl)) (Or.inr (oG hw 43 rfl)) (by decide) (t := .int) (t' := (.object "java/lang/String")) (by decide) (by decide)))).other W22 (Or.inr (slot_ne (Or.inr (oG hw 41 rfl)) (Or.inr (oG hw 45 rfl)) (by decide) (t := .int) (t' := (.object "java/lang/String")) (by decide) (by decide)))).other W27 (Or.inr (slot_ne (Or.inr (oG hw 41 rfl)) (Or.inr (oG hw 47 rfl)) (by decide) (t := .int) (t' := .int) (by decide) (by decide))))
  have f33 := (f22_.other W27 (Or.inr (slot_ne (Or.inr (oG hw 45 rfl)) (Or.inr (oG hw 47 rfl)) (by decide) (t := (.object "java/lang/String")) (t' := .int) (by decide) (by decide))))
  refine ⟨_, _, pre0 _ ?_, hrun, hended, _, _, rfl, ?_, ⟨_, rfl⟩, hW, hsame.mono (by decide) (by decide)⟩
  · refine XS.aloadN X0.here hx rfl (oD hby D4 0 rfl) rfl rfl ?_
    refine st1 _ ?_
    refine XS.aloadN X1.here hx rfl (oD hby D4 2 rfl) rfl rfl ?_
    refine XS.iloadN X1.here hx rfl (oD hby D4 3 rfl) rfl ?_
    refine st2 _ ?_
    refine XS.aloadN X2.here hx rfl (oD hby D4 5 rfl) rfl rfl ?_
    refine XS.aloadN X2.here hx rfl (oD hby D4 6 rfl) rfl rfl ?_
    refine st7 _ ?_
    refine XS.aloadN X7.here hx rfl (oD hby D4 8 rfl) rfl rfl ?_
    refine XS.iloadN X7.here hx rfl (oD hby D4 9 rfl) rfl ?_
    refine st12 _ ?_
    refine XS.aloadN X12.here hx rfl (oD hby D4 11 rfl) rfl rfl ?_
    refine XS.aload X12.here hx rfl (oD hby D4 12 rfl) rfl rfl ?_
    refine st17 _ ?_
    refine XS.aloadN X17.here hx rfl (oD hby D4 14 rfl) rfl rfl ?_
    refine XS.aload X17.here hx rfl (oD hby D4 15 rfl) rfl rfl ?_
    refine st22 _ ?_
    refine XS.aloadN X22.here hx rfl (oD hby D4 17 rfl) rfl rfl ?_
    refine XS.iload X22.here hx rfl (oD hby D4 18 rfl) rfl ?_
    refine st27 _ ?_
    show Steps _ _ _ (T27.setTop (mkF m 37 #[rv u0, iv p1, rv u2, iv p3, .val .null, rv u5, iv p6] [])) _
    exact X27.returnOut hx Bd.returns (oD hby D4 20 rfl) hr
  · show Q_rmRI1 Z u0 p1 u2 p3 u5 p6 h0 n0 _ T27.heap _
    rw [e27]
    exact ⟨rfl, N28, K29, f30, f31, f32, f33, f27_⟩

theorem ef_rmRI2 (m : MethodId) (x0 : Addr) (x1 : Int32) (x2 : Addr) (x3 : Int32) (x4 : Addr) (x5 : Addr) (x6 : Int32) : entryFrame m #[(.ref x0), (.int x1), (.ref x2), (.int x3), (.ref x4), (.ref x5), (.int x6)] 7 = mkF m 0 #[rv x0, iv x1, rv x2, iv x3, rv x4, rv x5, iv x6] [] := by first | (simp [entryFrame, mkF, argsToLocals, Value.category]; done) | rfl
def Q_rmRI2 (Z : State) (u0 : Addr) (p1 : Int32) (u2 : Addr) (p3 : Int32) (u4 : Addr) (u5 : Addr) (p6 : Int32) (h0 : Heap) (n0 : Nat) (v : Option Value) (h : Heap) (L : List Loc) : Prop := (v = none ∧ Fr n0 L ∧ Keep h0 h [u0] ∧ Fld Z h u0 "com/example/fastpath/fastpath/settings/RedisServer" "tls" "Z" (.int p1) ∧ Fld Z h u0 "com/example/fastpath/fastpath/settings/RedisServer" "host" "Ljava/lang/String;" (.ref u2) ∧ Fld Z h u0 "com/example/fastpath/fastpath/settings/RedisServer" "port" "I" (.int p3) ∧ Fld Z h u0 "com/example/fastpath/fastpath/settings/RedisServer" "password" "Ljava/lang/String;" (.ref u5) ∧ Fld Z h u0 "com/example/fastpath/fastpath/settings/RedisServer" "database" "I" (.int p6))
theorem rmRI2 (l : Launch) (Z : State) (a0 : Array Value) (hw : own_W a0 Z) (ws : List Jvm.Cond) (u0 : Addr) (p1 : Int32) (u2 : Addr) (p3 : Int32) (u4 : Addr) (u5 : Addr) (p6 : Int32) (h0 : Heap) (n0 : Nat) (Z0 : n0 ≤ h0.size) (P_E_u0 : Exa Z h0 u0 "com/example/fastpath/fastpath/settings/RedisServer") (P_F_u0_RedisServer_tls : Fld Z h0 u0 "com/example/fastpath/fastpath/settings/RedisServer" "tls" "Z" (.int (0 : Int32))) (P_F_u0_RedisServer_host : Fld Z h0 u0 "com/example/fastpath/fastpath/settings/RedisServer" "host" "Ljava/lang/String;" .null) (P_F_u0_RedisServer_port : Fld Z h0 u0 "com/example/fastpath/fastpath/settings/RedisServer" "port" "I" (.int (0 : Int32))) (P_F_u0_RedisServer_user : Fld Z h0 u0 "com/example/fastpath/fastpath/settings/RedisServer" "user" "Ljava/lang/String;" .null) (P_F_u0_RedisServer_password : Fld Z h0 u0 "com/example/fastpath/fastpath/settings/RedisServer" "password" "Ljava/lang/String;" .null) (P_F_u0_RedisServer_database : Fld Z h0 u0 "com/example/fastpath/fastpath/settings/RedisServer" "database" "I" (.int (0 : Int32))) (hbo : p1 = (0 : Int32) ∨ p1 = (1 : Int32)) (g_u0 : n0 ≤ u0) :
    own_MF l own_y40 (Jvm.Cond.code own_y40 prog_20_method_1_code 7 none) ws ({ frames := 2, cells := 0, slots := 0, locals := 24 } : Room) #[(.ref u0), (.int p1), (.ref u2), (.int p3), (.ref u4), (.ref u5), (.int p6)] Z h0 (Q_rmRI2 Z u0 p1 u2 p3 u4 u5 p6 h0 n0) := by
  refine own_enter (n0 := n0) (plainFor_of_name pn_4) (C := "com/example/fastpath/fastpath/settings/RedisServer") rfl (fun m => ef_rmRI2 m u0 p1 u2 p3 u4 u5 p6) fun p e s m below meth c s₁ Bd hx hby hml hown hnm hZ hh X0 e0 N0 pre0 => ?_
  obtain ⟨_, T1, L1, X1, hQ1, st1⟩ := own_cI X0 hx rfl hown hZ (oG hw 30 rfl) (oG hw 31 rfl) (oG hw 33 rfl) (oG hw 34 rfl) (by decide) (rmRe l Z a0 hw [] u0 h0 n0 Z0 ) (W := 0) (by decide) (by decide) (g := (mkF m 1 #[rv u0, iv p1, rv u2, iv p3, rv u4, rv u5, iv p6] [(.ref u0)])) rfl (by rw [hml]; rfl) (a := u0) (argsL := []) (rest := []) (lenOf pd26 rfl) rfl (own_ww rfl) (oD hby D4 1 rfl) e0 rfl (by decide) (by decide)
  obtain ⟨rfl, N1q, e1⟩ := hQ1
  have N1 := Fr.app N0 N1q
  obtain ⟨T2, h2, X2, e2, W2, st2⟩ := putFN X1 hx hZ hown (oG hw 36 rfl) Via.refl e1 P_F_u0_RedisServer_tls P_E_u0 (Or.inr ⟨(oG hw 37 rfl), rfl, hnm⟩) (oG hw 25 rfl) (ty := .boolean) (v' := (.int p1)) (by decide) (own_nb hbo) (own_fb hbo) (g := (mkF m 6 #[rv u0, iv p1, rv u2, iv p3, rv u4, rv u5, iv p6] [(.int p1), (.ref u0)])) rfl rfl (oD hby D4 4 rfl)
  have f2_ : Fld Z h2 u0 "com/example/fastpath/fastpath/settings/RedisServer" "tls" "Z" (.int p1) := P_F_u0_RedisServer_tls.same W2
  have N3 := Fr.snoc X2 N1 g_u0
  have K4 : Keep h0 h2 [u0] := (Keep.refl h0 [u0]).wr W2 (Or.inl (List.mem_of_getElem? (i := 0) rfl))
  have f5 := (P_E_u0.wr W2)
  have f6 := (P_F_u0_RedisServer_host.other W2 (Or.inr (slot_ne (Or.inr (oG hw 39 rfl)) (Or.inr (oG hw 37 rfl)) (by decide) (t := (.object "java/lang/String")) (t' := .boolean) (by decide) (by decide))))
  obtain ⟨T7, h7, X7, e7, W7, st7⟩ := putF X2 hx hZ hown (host := "") (Or.inl (oG hw 38 rfl)) Via.refl e2 f6 f5 (Or.inr ⟨(oG hw 39 rfl), rfl, hnm⟩) (oG hw 25 rfl) (ty := (.object "java/lang/String")) (by decide) rfl rfl (g := (mkF m 11 #[rv u0, iv p1, rv u2, iv p3, rv u4, rv u5, iv p6] [(.ref u2), (.ref u0)])) rfl rfl (oD hby D4 7 rfl)
  have f7_ : Fld Z h7 u0 "com/example/fastpath/fastpath/settings/RedisServer" "host" "Ljava/lang/String;" (.ref u2) := f6.same W7
  have N8 := Fr.snoc X7 N3 g_u0
  have K9 : Keep h0 h7 [u0] := K4.wr W7 (Or.inl (List.mem_of_getElem? (i := 0) rfl))
  have f10 := (f5.wr W7)
  have f11 := ((P_F_u0_RedisServer_port.other W2 (Or.inr (slot_ne (Or.inr (oG hw 41 rfl)) (Or.inr (oG hw 37 rfl)) (by decide) (t := .int) (t' := .boolean) (by decide) (by decide)))).other W7 (Or.inr (slot_ne (Or.inr (oG hw 41 rfl)) (Or.inr (oG hw 39 rfl)) (by decide) (t := .int) (t' := (.object "java/lang/String")) (by decide) (by decide))))
  obtain ⟨T12, h12, X12, e12, W12, st12⟩ := putF X7 hx hZ hown (host := "") (Or.inl (oG hw 40 rfl)) Via.refl e7 f11 f10 (Or.inr ⟨(oG hw 41 rfl), rfl, hnm⟩) (oG hw 25 rfl) (ty := .int) (by decide) rfl rfl (g := (mkF m 16 #[rv u0, iv p1, rv u2, iv p3, rv u4, rv u5, iv p6] [(.int p3), (.ref u0)])) rfl rfl (oD hby D4 10 rfl)
  have f12_ : Fld Z h12 u0 "com/example/fastpath/fastpath/settings/RedisServer" "port" "I" (.int p3) := f11.same W12
  have N13 := Fr.snoc X12 N8 g_u0
  have K14 : Keep h0 h12 [u0] := K9.wr W12 (Or.inl (List.mem_of_getElem? (i := 0) rfl))
  have f15 := (f10.wr W12)
  have f16 := (((P_F_u0_RedisServer_user.other W2 (Or.inr (slot_ne (Or.inr (oG hw 43 rfl)) (Or.inr (oG hw 37 rfl)) (by decide) (t := (.object "java/lang/String")) (t' := .boolean) (by decide) (by decide)))).other W7 (Or.inr (slot_ne (Or.inr (oG hw 43 rfl)) (Or.inr (oG hw 39 rfl)) (by decide) (t := (.object "java/lang/String")) (t' := (.object "java/lang/String")) (by decide) (by decide)))).other W12 (Or.inr (slot_ne (Or.inr (oG hw 43 rfl)) (Or.inr (oG hw 41 rfl)) (by decide) (t := (.object "java/lang/String")) (t' := .int) (by decide) (by decide))))
  obtain ⟨T17, h17, X17, e17, W17, st17⟩ := putF X12 hx hZ hown (host := "") (Or.inl (oG hw 42 rfl)) Via.refl e12 f16 f15 (Or.inr ⟨(oG hw 43 rfl), rfl, hnm⟩) (oG hw 25 rfl) (ty := (.object "java/lang/String")) (by decide) rfl rfl (g := (mkF m 22 #[rv u0, iv p1, rv u2, iv p3, rv u4, rv u5, iv p6] [(.ref u4), (.ref u0)])) rfl rfl (oD hby D4 13 rfl)
  have f17_ : Fld Z h17 u0 "com/example/fastpath/fastpath/settings/RedisServer" "user" "Ljava/lang/String;" (.ref u4) := f16.same W17
  have N18 := Fr.snoc X17 N13 g_u0
  have K19 : Keep h0 h17 [u0] := K14.wr W17 (Or.inl (List.mem_of_getElem? (i := 0) rfl))
  have f20 := (f15.wr W17)
  have f21 := ((((P_F_u0_RedisServer_password.other W2 (Or.inr (slot_ne (Or.inr (oG hw 45 rfl)) (Or.inr (oG hw 37 rfl)) (by decide) (t := (.object "java/lang/String")) (t' := .boolean) (by decide) (by decide)))).other W7 (Or.inr (slot_ne (Or.inr (oG hw 45 rfl)) (Or.inr (oG hw 39 rfl)) (by decide) (t := (.object "java/lang/String")) (t' := (.object "java/lang/String")) (by decide) (by decide)))).other W12 (Or.inr (slot_ne (Or.inr (oG hw 45 rfl)) (Or.inr (oG hw 41 rfl)) (by decide) (t := (.object "java/lang/String")) (t' := .int) (by decide) (by decide)))).other W17 (Or.inr (slot_ne (Or.inr (oG hw 45 rfl)) (Or.inr (oG hw 43 rfl)) (by decide) (t := (.object "java/lang/String")) (t' := (.object "java/lang/String")) (by decide) (by decide))))
  obtain ⟨T22, h22, X22, e22, W22, st22⟩ := putF X17 hx hZ hown (host := "") (Or.inl (oG hw 44 rfl)) Via.refl e17 f21 f20 (Or.inr ⟨(oG hw 45 rfl), rfl, hnm⟩) (oG hw 25 rfl) (ty := (.object "java/lang/String")) (by decide) rfl rfl (g := (mkF m 28 #[rv u0, iv p1, rv u2, iv p3, rv u4, rv u5, iv p6] [(.ref u5), (.ref u0)])) rfl rfl (oD hby D4 16 rfl)
  have f22_ : Fld Z h22 u0 "com/example/fastpath/fastpath/settings/RedisServer" "password" "Ljava/lang/String;" (.ref u5) := f21.same W22
  have N23 := Fr.snoc X22 N18 g_u0
  have K24 : Keep h0 h22 [u0] := K19.wr W22 (Or.inl (List.mem_of_getElem? (i := 0) rfl))
  have f25 := (f20.wr W22)
  have f26 := (((((P_F_u0_RedisServer_database.other W2 (Or.inr (slot_ne (Or.inr (oG hw 47 rfl)) (Or.inr (oG hw 37 rfl)) (by decide) (t := .int) (t' := .boolean) (by decide) (by decide)))).other W7 (Or.inr (slot_ne (Or.inr (oG hw 47 rfl)) (Or.inr (oG hw 39 rfl)) (by decide) (t := .int) (t' := (.object "java/lang/String")) (by decide) (by decide)))).other W12 (Or.inr (slot_ne (Or.inr (oG hw 47 rfl)) (Or.inr (oG hw 41 rfl)) (by decide) (t := .int) (t' := .int) (by decide) (by decide)))).other W17 (Or.inr (slot_ne (Or.inr (oG hw 47 rfl)) (Or.inr (oG hw 43 rfl)) (by decide) (t := .int) (t' := (.object "java/lang/String")) (by decide) (by decide)))).other W22 (Or.inr (slot_ne (Or.inr (oG hw 47 rfl)) (Or.inr (oG hw 45 rfl)) (by decide) (t := .int) (t' := (.object "java/lang/String")) (by decide) (by decide))))
  obtain ⟨T27, h27, X27, e27, W27, st27⟩ := putF X22 hx hZ hown (host := "") (Or.inl (oG hw 46 rfl)) Via.refl e22 f26 f25 (Or.inr ⟨(oG hw 47 rfl), rfl, hnm⟩) (oG hw 25 rfl) (ty := .int) (by decide) rfl rfl (g := (mkF m 34 #[rv u0, iv p1, rv u2, iv p3, rv u4, rv u5, iv p6] [(.int p6), (.ref u0)])) rfl rfl (oD hby D4 19 rfl)
  have f27_ : Fld Z h27 u0 "com/example/fastpath/fastpath/settings/RedisServer" "database" "I" (.int p6) := f26.same W27
  have N28 := Fr.snoc X27 N23 g_u0
  have K29 : Keep h0 h27 [u0] := K24.wr W27 (Or.inl (List.mem_of_getElem? (i := 0) rfl))
  obtain ⟨fs, hr, hrun, hended, hW, hsame⟩ := X27.leave (v := none) (fun _ => rfl)
  have f30 := (((((f2_.other W7 (Or.inr (slot_ne (Or.inr (oG hw 37 rfl)) (Or.inr (oG hw 39 rfl)) (by decide) (t := .boolean) (t' := (.object "java/lang/String")) (by decide) (by decide)))).other W12 (Or.inr (slot_ne (Or.inr (oG hw 37 rfl)) (Or.inr (oG hw 41 rfl)) (by decide) (t := .boolean) (t' := .int) (by decide) (by decide)))).other W17 (Or.inr (slot_ne (Or.inr (oG hw 37 rfl)) (Or.inr (oG hw 43 rfl)) (by decide) (t := .boolean) (t' := (.object "java/lang/String")) (by decide) (by decide)))).other W22 (Or.inr (slot_ne (Or.inr (oG hw 37 rfl)) (Or.inr (oG hw 45 rfl)) (by decide) (t := .boolean) (t' := (.object "java/lang/String")) (by decide) (by decide)))).other W27 (Or.inr (slot_ne (Or.inr (oG hw 37 rfl)) (Or.inr (oG hw 47 rfl)) (by decide) (t := .boolean) (t' := .int) (by decide) (by decide))))
  have f31 := ((((f7_.other W12 (Or.inr (slot_ne (Or.inr (oG hw 39 rfl)) (Or.inr (oG hw 41 rfl)) (by decide) (t := (.object "java/lang/String")) (t' := .int) (by decide) (by decide)))).other W17 (Or.inr (slot_ne (Or.inr (oG hw 39 rfl)) (Or.inr (oG hw 43 rfl)) (by decide) (t := (.object "java/lang/String")) (t' := (.object "java/lang/String")) (by decide) (by decide)))).other W22 (Or.inr (slot_ne (Or.inr (oG hw 39 rfl)) (Or.inr (oG hw 45 rfl)) (by decide) (t := (.object "java/lang/String")) (t' := (.object "java/lang/String")) (by decide) (by decide)))).other W27 (Or.inr (slot_ne (Or.inr (oG hw 39 rfl)) (Or.inr (oG hw 47 rfl)) (by decide) (t := (.object "java/lang/String")) (t' := .int) (by decide) (by decide))))
  have f32 := (((f12_.other W17 (Or.inr (slot_ne (Or.inr (oG hw 41 rfl)) (Or.inr (oG hw 43 rfl)) (by decide) (t := .int) (t' := (.object "java/lang/String")) (by decide) (by decide)))).other W22 (Or.inr (slot_ne (Or.inr (oG hw 41 rfl)) (Or.inr (oG hw 45 rfl)) (by decide) (t := .int) (t' := (.object "java/lang/String")) (by decide) (by decide)))).other W27 (Or.inr (slot_ne (Or.inr (oG hw 41 rfl)) (Or.inr (oG hw 47 rfl)) (by decide) (t := .int) (t' := .int) (by decide) (by decide))))
  have f33 := (f22_.other W27 (Or.inr (slot_ne (Or.inr (oG hw 45 rfl)) (Or.inr (oG hw 47 rfl)) (by decide) (t := (.object "java/lang/String")) (t' := .int) (by decide) (by decide))))
  refine ⟨_, _, pre0 _ ?_, hrun, hended, _, _, rfl, ?_, ⟨_, rfl⟩, hW, hsame.mono (by decide) (by decide)⟩
  · refine XS.aloadN X0.here hx rfl (oD hby D4 0 rfl) rfl rfl ?_
    refine st1 _ ?_
    refine XS.aloadN X1.here hx rfl (oD hby D4 2 rfl) rfl rfl ?_
    refine XS.iloadN X1.here hx rfl (oD hby D4 3 rfl) rfl ?_
    refine st2 _ ?_
    refine XS.aloadN X2.here hx rfl (oD hby D4 5 rfl) rfl rfl ?_
    refine XS.aloadN X2.here hx rfl (oD hby D4 6 rfl) rfl rfl ?_
    refine st7 _ ?_
    refine XS.aloadN X7.here hx rfl (oD hby D4 8 rfl) rfl rfl ?_
    refine XS.iloadN X7.here hx rfl (oD hby D4 9 rfl) rfl ?_
    refine st12 _ ?_
    refine XS.aloadN X12.here hx rfl (oD hby D4 11 rfl) rfl rfl ?_
    refine XS.aload X12.here hx rfl (oD hby D4 12 rfl) rfl rfl ?_
    refine st17 _ ?_
    refine XS.aloadN X17.here hx rfl (oD hby D4 14 rfl) rfl rfl ?_
    refine XS.aload X17.here hx rfl (oD hby D4 15 rfl) rfl rfl ?_
    refine st22 _ ?_
    refine XS.aloadN X22.here hx rfl (oD hby D4 17 rfl) rfl rfl ?_
    refine XS.iload X22.here hx rfl (oD hby D4 18 rfl) rfl ?_
    refine st27 _ ?_
    show Steps _ _ _ (T27.setTop (mkF m 37 #[rv u0, iv p1, rv u2, iv p3, rv u4, rv u5, iv p6] [])) _
    exact X27.returnOut hx Bd.returns (oD hby D4 20 rfl) hr
  · show Q_rmRI2 Z u0 p1 u2 p3 u4 u5 p6 h0 n0 _ T27.heap _
    rw [e27]
    exact ⟨rfl, N28, K29, f30, f31, f32, f33, f27_⟩

theorem ef_rmSS (m : MethodId) (x0 : Int32) : entryFrame m #[(.int x0)] 4 = mkF m 0 #[iv x0, .unset, .unset, .unset] [] := by first | (simp [entryFrame, mkF, argsToLocals, Value.category]; done) | rfl
theorem rmSS (l : Launch) (Z : State) (a0 : Array Value) (hw : own_W a0 Z) (ws : List Jvm.Cond) (p0 : Int32) (h0 : Heap) (n0 : Nat) (Z0 : n0 ≤ h0.size) (hv : ¬ p0 < 0) :
    own_MF l own_y41 (Jvm.Cond.code own_y41 jdk_33_method_13_code 4 (some .int)) ws ({ frames := 0, cells := 0, slots := 0, locals := 0 } : Room) #[(.int p0)] Z h0 (own_QP (some (.int (own_ni p0))) h0 n0) := by
  refine own_enter (n0 := n0) (plainFor_of_name pn_19) (C := "java/lang/Integer") rfl (fun m => ef_rmSS m p0) fun p e s m below meth c s₁ Bd hx hby hml hown hnm hZ hh X0 e0 N0 pre0 => ?_
  have pre2 : own_V p e below _ s₁ (mkF m 24 #[iv (-p0), iv (0 : Int32), iv (-10 : Int32), iv (1 : Int32)] [(.int (-10 : Int32)), (.int (-p0))]) := fun t kt => pre0 t (by
   refine XS.iconst X0.here hx rfl (oD hby D19 0 rfl) ?_
   refine XS.istoreN X0.here hx rfl (oD hby D19 1 rfl) rfl rfl ?_
   refine XS.iloadN X0.here hx rfl (oD hby D19 2 rfl) rfl ?_
   refine XS.ifNo X0.here hx rfl (oD hby D19 3 rfl) rfl ((if0 _ _).trans (flt hv).1) ?_
   refine XS.iconst X0.here hx rfl (oD hby D19 4 rfl) ?_
   refine XS.istoreN X0.here hx rfl (oD hby D19 5 rfl) rfl rfl ?_
   refine XS.iloadN X0.here hx rfl (oD hby D19 6 rfl) rfl ?_
   refine XS.ineg X0.here hx rfl (oD hby D19 7 rfl) rfl ?_
   refine XS.istoreN X0.here hx rfl (oD hby D19 8 rfl) rfl rfl ?_
   refine XS.bipush X0.here hx rfl (oD hby D19 9 rfl) ?_
   refine XS.istoreN X0.here hx rfl (oD hby D19 10 rfl) rfl rfl ?_
   refine XS.iconst X0.here hx rfl (oD hby D19 11 rfl) ?_
   refine XS.istoreN X0.here hx rfl (oD hby D19 12 rfl) rfl rfl ?_
   refine XS.iloadN X0.here hx rfl (oD hby D19 13 rfl) rfl ?_
   refine XS.bipush X0.here hx rfl (oD hby D19 14 rfl) ?_
   refine XS.icmpNo X0.here hx rfl (oD hby D19 15 rfl) rfl (tlt (by decide : (1 : Int32) < (10 : Int32))).2.1 ?_
   refine XS.iloadN X0.here hx rfl (oD hby D19 16 rfl) rfl ?_
   refine XS.iloadN X0.here hx rfl (oD hby D19 17 rfl) rfl ?_
   exact kt)
  by_cases hc24_1 : (-10 : Int32) < (-p0)
  · obtain ⟨fs, hr, hrun, hended, hW, hsame⟩ := X0.leave (v := some (.int (1 : Int32))) (fun h => by rw [Bd.returns] at h; cases h)
    refine ⟨_, _, pre2 _ ?_, hrun, hended, _, _, rfl, ?_, ⟨_, rfl⟩, hW, hsame.mono (by decide) (by decide)⟩
    · refine XS.icmpNo X0.here hx rfl (oD hby D19 18 rfl) rfl (tlt hc24_1).2.2.2 ?_
      refine XS.iloadN X0.here hx rfl (oD hby D19 19 rfl) rfl ?_
      refine XS.iloadN X0.here hx rfl (oD hby D19 20 rfl) rfl ?_
      refine XS.iadd X0.here hx rfl (oD hby D19 21 rfl) rfl ?_
      show Steps _ _ _ (s₁.setTop (mkF m 30 #[iv (-p0), iv (0 : Int32), iv (-10 : Int32), iv (1 : Int32)] [(.int (1 : Int32))])) _
      exact retI X0 hx Bd.returns (oD hby D19 22 rfl) hr
    · show own_QP (some (.int (own_ni p0))) h0 n0 _ s₁.heap _
      rw [e0]
      exact ⟨(congrArg (fun q => some (Value.int q)) (own_ss1 hv hc24_1)), N0, rfl⟩
  · have pre4 : own_V p e below _ s₁ (mkF m 24 #[iv (-p0), iv (0 : Int32), iv (-100 : Int32), iv (2 : Int32)] [(.int (-100 : Int32)), (.int (-p0))]) := fun t kt => pre2 t (by
     refine XS.icmpYes X0.here hx rfl (pc0 := 24) (pc' := 31) rfl (oD hby D19 18 rfl) rfl (flt hc24_1).2.2.2 (by decide) (by decide) ?_
     show Steps _ _ _ (s₁.setTop (mkF m 31 #[iv (-p0), iv (0 : Int32), iv (-10 : Int32), iv (1 : Int32)] [])) _
     refine XS.bipush X0.here hx rfl (oD hby D19 23 rfl) ?_
     refine XS.iloadN X0.here hx rfl (oD hby D19 24 rfl) rfl ?_
     refine XS.imul X0.here hx rfl (oD hby D19 25 rfl) rfl ?_
     refine XS.istoreN X0.here hx rfl (oD hby D19 26 rfl) rfl rfl ?_
     refine XS.iinc X0.here hx rfl (oD hby D19 27 rfl) rfl rfl ?_
     refine XS.goto X0.here hx rfl (pc0 := 39) (pc' := 16) rfl (oD hby D19 28 rfl) (by decide) (by decide) ?_
     refine XS.iloadN X0.here hx rfl (oD hby D19 13 rfl) rfl ?_
     refine XS.bipush X0.here hx rfl (oD hby D19 14 rfl) ?_
     refine XS.icmpNo X0.here hx rfl (oD hby D19 15 rfl) rfl (tlt (by decide : (2 : Int32) < (10 : Int32))).2.1 ?_
     refine XS.iloadN X0.here hx rfl (oD hby D19 16 rfl) rfl ?_
     refine XS.iloadN X0.here hx rfl (oD hby D19 17 rfl) rfl ?_
     exact kt)
    by_cases hc24_3 : (-100 : Int32) < (-p0)
    · obtain ⟨fs, hr, hrun, hended, hW, hsame⟩ := X0.leave (v := some (.int (2 : Int32))) (fun h => by rw [Bd.returns] at h; cases h)
      refine ⟨_, _, pre4 _ ?_, hrun, hended, _, _, rfl, ?_, ⟨_, rfl⟩, hW, hsame.mono (by decide) (by decide)⟩
      · refine XS.icmpNo X0.here hx rfl (oD hby D19 18 rfl) rfl (tlt hc24_3).2.2.2 ?_
        refine XS.iloadN X0.here hx rfl (oD hby D19 19 rfl) rfl ?_
        refine XS.iloadN X0.here hx rfl (oD hby D19 20 rfl) rfl ?_
        refine XS.iadd X0.here hx rfl (oD hby D19 21 rfl) rfl ?_
        show Steps _ _ _ (s₁.setTop (mkF m 30 #[iv (-p0), iv (0 : Int32), iv (-100 : Int32), iv (2 : Int32)] [(.int (2 : Int32))])) _
        exact retI X0 hx Bd.returns (oD hby D19 22 rfl) hr
      · show own_QP (some (.int (own_ni p0))) h0 n0 _ s₁.heap _
        rw [e0]
        exact ⟨(congrArg (fun q => some (Value.int q)) (own_ss2 hv hc24_1 hc24_3)), N0, rfl⟩
    · have pre6 : own_V p e below _ s₁ (mkF m 24 #[iv (-p0), iv (0 : Int32), iv (-1000 : Int32), iv (3 : Int32)] [(.int (-1000 : Int32)), (.int (-p0))]) := fun t kt => pre4 t (by
       refine XS.icmpYes X0.here hx rfl (pc0 := 24) (pc' := 31) rfl (oD hby D19 18 rfl) rfl (flt hc24_3).2.2.2 (by decide) (by decide) ?_
       refine XS.bipush X0.here hx rfl (oD hby D19 23 rfl) ?_
       refine XS.iloadN X0.here hx rfl (oD hby D19 24 rfl) rfl ?_
       refine XS.imul X0.here hx rfl (oD hby D19 25 rfl) rfl ?_
       refine XS.istoreN X0.here hx rfl (oD hby D19 26 rfl) rfl rfl ?_
       refine XS.iinc X0.here hx rfl (oD hby D19 27 rfl) rfl rfl ?_
       refine XS.goto X0.here hx rfl (pc0 := 39) (pc' := 16) rfl (oD hby D19 28 rfl) (by decide) (by decide) ?_
       refine XS.iloadN X0.here hx rfl (oD hby D19 13 rfl) rfl ?_
       refine XS.bipush X0.here hx rfl (oD hby D19 14 rfl) ?_
       show Steps _ _ _ (s₁.setTop (mkF m 19 #[iv (-p0), iv (0 : Int32), iv (-1000 : Int32), iv (3 : Int32)] [(.int (10 : Int32)), (.int (3 : Int32))])) _
       refine XS.icmpNo X0.here hx rfl (oD hby D19 15 rfl) rfl (tlt (by decide : (3 : Int32) < (10 : Int32))).2.1 ?_
       refine XS.iloadN X0.here hx rfl (oD hby D19 16 rfl) rfl ?_
       refine XS.iloadN X0.here hx rfl (oD hby D19 17 rfl) rfl ?_
       exact kt)
      by_cases hc24_5 : (-1000 : Int32) < (-p0)
      · obtain ⟨fs, hr, hrun, hended, hW, hsame⟩ := X0.leave (v := some (.int (3 : Int32))) (fun h => by rw [Bd.returns] at h; cases h)
        refine ⟨_, _, pre6 _ ?_, hrun, hended, _, _, rfl, ?_, ⟨_, rfl⟩, hW, hsame.mono (by decide) (by decide)⟩
        · refine XS.icmpNo X0.here hx rfl (oD hby D19 18 rfl) rfl (tlt hc24_5).2.2.2 ?_
          refine XS.iloadN X0.here hx rfl (oD hby D19 19 rfl) rfl ?_
          refine XS.iloadN X0.here hx rfl (oD hby D19 20 rfl) rfl ?_
          refine XS.iadd X0.here hx rfl (oD hby D19 21 rfl) rfl ?_
          show Steps _ _ _ (s₁.setTop (mkF m 30 #[iv (-p0), iv (0 : Int32), iv (-1000 : Int32), iv (3 : Int32)] [(.int (3 : Int32))])) _
          exact retI X0 hx Bd.returns (oD hby D19 22 rfl) hr
        · show own_QP (some (.int (own_ni p0))) h0 n0 _ s₁.heap _
          rw [e0]
          exact ⟨(congrArg (fun q => some (Value.int q)) (own_ss3 hv hc24_3 hc24_5)), N0, rfl⟩
      · have pre8 : own_V p e below _ s₁ (mkF m 24 #[iv (-p0), iv (0 : Int32), iv (-10000 : Int32), iv (4 : Int32)] [(.int (-10000 : Int32)), (.int (-p0))]) := fun t kt => pre6 t (by
         refine XS.icmpYes X0.here hx rfl (pc0 := 24) (pc' := 31) rfl (oD hby D19 18 rfl) rfl (flt hc24_5).2.2.2 (by decide) (by decide) ?_
         refine XS.bipush X0.here hx rfl (oD hby D19 23 rfl) ?_
         refine XS.iloadN X0.here hx rfl (oD hby D19 24 rfl) rfl ?_
         refine XS.imul X0.here hx rfl (oD hby D19 25 rfl) rfl ?_
         refine XS.istoreN X0.here hx rfl (oD hby D19 26 rfl) rfl rfl ?_
         refine XS.iinc X0.here hx rfl (oD hby D19 27 rfl) rfl rfl ?_
         refine XS.goto X0.here hx rfl (pc0 := 39) (pc' := 16) rfl (oD hby D19 28 rfl) (by decide) (by decide) ?_
         refine XS.iloadN X0.here hx rfl (oD hby D19 13 rfl) rfl ?_
         refine XS.bipush X0.here hx rfl (oD hby D19 14 rfl) ?_
         refine XS.icmpNo X0.here hx rfl (oD hby D19 15 rfl) rfl (tlt (by decide : (4 : Int32) < (10 : Int32))).2.1 ?_
         refine XS.iloadN X0.here hx rfl (oD hby D19 16 rfl) rfl ?_
         refine XS.iloadN X0.here hx rfl (oD hby D19 17 rfl) rfl ?_
         exact kt)
        by_cases hc24_7 : (-10000 : Int32) < (-p0)
        · obtain ⟨fs, hr, hrun, hended, hW, hsame⟩ := X0.leave (v := some (.int (4 : Int32))) (fun h => by rw [Bd.returns] at h; cases h)
          refine ⟨_, _, pre8 _ ?_, hrun, hended, _, _, rfl, ?_, ⟨_, rfl⟩, hW, hsame.mono (by decide) (by decide)⟩
          · refine XS.icmpNo X0.here hx rfl (oD hby D19 18 rfl) rfl (tlt hc24_7).2.2.2 ?_
            refine XS.iloadN X0.here hx rfl (oD hby D19 19 rfl) rfl ?_
            refine XS.iloadN X0.here hx rfl (oD hby D19 20 rfl) rfl ?_
            refine XS.iadd X0.here hx rfl (oD hby D19 21 rfl) rfl ?_
            show Steps _ _ _ (s₁.setTop (mkF m 30 #[iv (-p0), iv (0 : Int32), iv (-10000 : Int32), iv (4 : Int32)] [(.int (4 : Int32))])) _
            exact retI X0 hx Bd.returns (oD hby D19 22 rfl) hr
          · show own_QP (some (.int (own_ni p0))) h0 n0 _ s₁.heap _
            rw [e0]
            exact ⟨(congrArg (fun q => some (Value.int q)) (own_ss4 hv hc24_5 hc24_7)), N0, rfl⟩
        · have pre10 : own_V p e below _ s₁ (mkF m 24 #[iv (-p0), iv (0 : Int32), iv (-100000 : Int32), iv (5 : Int32)] [(.int (-100000 : Int32)), (.int (-p0))]) := fun t kt => pre8 t (by
           refine XS.icmpYes X0.here hx rfl (pc0 := 24) (pc' := 31) rfl (oD hby D19 18 rfl) rfl (flt hc24_7).2.2.2 (by decide) (by decide) ?_
           show Steps _ _ _ (s₁.setTop (mkF m 31 #[iv (-p0), iv (0 : Int32), iv (-10000 : Int32), iv (4 : Int32)] [])) _
           refine XS.bipush X0.here hx rfl (oD hby D19 23 rfl) ?_
           refine XS.iloadN X0.here hx rfl (oD hby D19 24 rfl) rfl ?_
           refine XS.imul X0.here hx rfl (oD hby D19 25 rfl) rfl ?_
           refine XS.istoreN X0.here hx rfl (oD hby D19 26 rfl) rfl rfl ?_
           refine XS.iinc X0.here hx rfl (oD hby D19 27 rfl) rfl rfl ?_
           refine XS.goto X0.here hx rfl (pc0 := 39) (pc' := 16) rfl (oD hby D19 28 rfl) (by decide) (by decide) ?_
           refine XS.iloadN X0.here hx rfl (oD hby D19 13 rfl) rfl ?_
           refine XS.bipush X0.here hx rfl (oD hby D19 14 rfl) ?_
           refine XS.icmpNo X0.here hx rfl (oD hby D19 15 rfl) rfl (tlt (by decide : (5 : Int32) < (10 : Int32))).2.1 ?_
           refine XS.iloadN X0.here hx rfl (oD hby D19 16 rfl) rfl ?_
           refine XS.iloadN X0.here hx rfl (oD hby D19 17 rfl) rfl ?_
           exact kt)
          by_cases hc24_9 : (-100000 : Int32) < (-p0)
          · obtain ⟨fs, hr, hrun, hended, hW, hsame⟩ := X0.leave (v := some (.int (5 : Int32))) (fun h => by rw [Bd.returns] at h; cases h)
            refine ⟨_, _, pre10 _ ?_, hrun, hended, _, _, rfl, ?_, ⟨_, rfl⟩, hW, hsame.mono (by decide) (by decide)⟩
            · refine XS.icmpNo X0.here hx rfl (oD hby D19 18 rfl) rfl (tlt hc24_9).2.2.2 ?_
              refine XS.iloadN X0.here hx rfl (oD hby D19 19 rfl) rfl ?_
              refine XS.iloadN X0.here hx rfl (oD hby D19 20 rfl) rfl ?_
              refine XS.iadd X0.here hx rfl (oD hby D19 21 rfl) rfl ?_
              show Steps _ _ _ (s₁.setTop (mkF m 30 #[iv (-p0), iv (0 : Int32), iv (-100000 : Int32), iv (5 : Int32)] [(.int (5 : Int32))])) _
              exact retI X0 hx Bd.returns (oD hby D19 22 rfl) hr
            · show own_QP (some (.int (own_ni p0))) h0 n0 _ s₁.heap _
              rw [e0]
              exact ⟨(congrArg (fun q => some (Value.int q)) (own_ss5 hv hc24_7 hc24_9)), N0, rfl⟩
          · have pre12 : own_V p e below _ s₁ (mkF m 24 #[iv (-p0), iv (0 : Int32), iv (-1000000 : Int32), iv (6 : Int32)] [(.int (-1000000 : Int32)), (.int (-p0))]) := fun t kt => pre10 t (by
             refine XS.icmpYes X0.here hx rfl (pc0 := 24) (pc' := 31) rfl (oD hby D19 18 rfl) rfl (flt hc24_9).2.2.2 (by decide) (by decide) ?_
             refine XS.bipush X0.here hx rfl (oD hby D19 23 rfl) ?_
             refine XS.iloadN X0.here hx rfl (oD hby D19 24 rfl) rfl ?_
             refine XS.imul X0.here hx rfl (oD hby D19 25 rfl) rfl ?_
             refine XS.istoreN X0.here hx rfl (oD hby D19 26 rfl) rfl rfl ?_
             refine XS.iinc X0.here hx rfl (oD hby D19 27 rfl) rfl rfl ?_
             refine XS.goto X0.here hx rfl (pc0 := 39) (pc' := 16) rfl (oD hby D19 28 rfl) (by decide) (by decide) ?_
             refine XS.iloadN X0.here hx rfl (oD hby D19 13 rfl) rfl ?_
             refine XS.bipush X0.here hx rfl (oD hby D19 14 rfl) ?_
             show Steps _ _ _ (s₁.setTop (mkF m 19 #[iv (-p0), iv (0 : Int32), iv (-1000000 : Int32), iv (6 : Int32)] [(.int (10 : Int32)), (.int (6 : Int32))])) _
             refine XS.icmpNo X0.here hx rfl (oD hby D19 15 rfl) rfl (tlt (by decide : (6 : Int32) < (10 : Int32))).2.1 ?_
             refine XS.iloadN X0.here hx rfl (oD hby D19 16 rfl) rfl ?_
             refine XS.iloadN X0.here hx rfl (oD hby D19 17 rfl) rfl ?_
             exact kt)
            by_cases hc24_11 : (-1000000 : Int32) < (-p0)
            · obtain ⟨fs, hr, hrun, hended, hW, hsame⟩ := X0.leave (v := some (.int (6 : Int32))) (fun h => by rw [Bd.returns] at h; cases h)
              refine ⟨_, _, pre12 _ ?_, hrun, hended, _, _, rfl, ?_, ⟨_, rfl⟩, hW, hsame.mono (by decide) (by decide)⟩
              · refine XS.icmpNo X0.here hx rfl (oD hby D19 18 rfl) rfl (tlt hc24_11).2.2.2 ?_
                refine XS.iloadN X0.here hx rfl (oD hby D19 19 rfl) rfl ?_
                refine XS.iloadN X0.here hx rfl (oD hby D19 20 rfl) rfl ?_
                refine XS.iadd X0.here hx rfl (oD hby D19 21 rfl) rfl ?_
                show Steps _ _ _ (s₁.setTop (mkF m 30 #[iv (-p0), iv (0 : Int32), iv (-1000000 : Int32), iv (6 : Int32)] [(.int (6 : Int32))])) _
                exact retI X0 hx Bd.returns (oD hby D19 22 rfl) hr
              · show own_QP (some (.int (own_ni p0))) h0 n0 _ s₁.heap _
                rw [e0]
                exact ⟨(congrArg (fun q => some (Value.int q)) (own_ss6 hv hc24_9 hc24_11)), N0, rfl⟩
            · have pre14 : own_V p e below _ s₁ (mkF m 24 #[iv (-p0), iv (0 : Int32), iv (-10000000 : Int32), iv (7 : Int32)] [(.int (-10000000 : Int32)), (.int (-p0))]) := fun t kt => pre12 t (by
               refine XS.icmpYes X0.here hx rfl (pc0 := 24) (pc' := 31) rfl (oD hby D19 18 rfl) rfl (flt hc24_11).2.2.2 (by decide) (by decide) ?_
               refine XS.bipush X0.here hx rfl (oD hby D19 23 rfl) ?_
               refine XS.iloadN X0.here hx rfl (oD hby D19 24 rfl) rfl ?_
               refine XS.imul X0.here hx rfl (oD hby D19 25 rfl) rfl ?_
               refine XS.istoreN X0.here hx rfl (oD hby D19 26 rfl) rfl rfl ?_
               refine XS.iinc X0.here hx rfl (oD hby D19 27 rfl) rfl rfl ?_
               refine XS.goto X0.here hx rfl (pc0 := 39) (pc' := 16) rfl (oD hby D19 28 rfl) (by decide) (by decide) ?_
               refine XS.iloadN X0.here hx rfl (oD hby D19 13 rfl) rfl ?_
               refine XS.bipush X0.here hx rfl (oD hby D19 14 rfl) ?_
               refine XS.icmpNo X0.here hx rfl (oD hby D19 15 rfl) rfl (tlt (by decide : (7 : Int32) < (10 : Int32))).2.1 ?_
               refine XS.iloadN X0.here hx rfl (oD hby D19 16 rfl) rfl ?_
               refine XS.iloadN X0.here hx rfl (oD hby D19 17 rfl) rfl ?_
               exact kt)
              by_cases hc24_13 : (-10000000 : Int32) < (-p0)
              · obtain ⟨fs, hr, hrun, hended, hW, hsame⟩ := X0.leave (v := some (.int (7 : Int32))) (fun h => by rw [Bd.returns] at h; cases h)
                refine ⟨_, _, pre14 _ ?_, hrun, hended, _, _, rfl, ?_, ⟨_, rfl⟩, hW, hsame.mono (by decide) (by decide)⟩
                · refine XS.icmpNo X0.here hx rfl (oD hby D19 18 rfl) rfl (tlt hc24_13).2.2.2 ?_
                  refine XS.iloadN X0.here hx rfl (oD hby D19 19 rfl) rfl ?_
                  refine XS.iloadN X0.here hx rfl (oD hby D19 20 rfl) rfl ?_
                  refine XS.iadd X0.here hx rfl (oD hby D19 21 rfl) rfl ?_
                  show Steps _ _ _ (s₁.setTop (mkF m 30 #[iv (-p0), iv (0 : Int32), iv (-10000000 : Int32), iv (7 : Int32)] [(.int (7 : Int32))])) _
                  exact retI X0 hx Bd.returns (oD hby D19 22 rfl) hr
                · show own_QP (some (.int (own_ni p0))) h0 n0 _ s₁.heap _
                  rw [e0]
                  exact ⟨(congrArg (fun q => some (Value.int q)) (own_ss7 hv hc24_11 hc24_13)), N0, rfl⟩
              · have pre16 : own_V p e below _ s₁ (mkF m 24 #[iv (-p0), iv (0 : Int32), iv (-100000000 : Int32), iv (8 : Int32)] [(.int (-100000000 : Int32)), (.int (-p0))]) := fun t kt => pre14 t (by
                 refine XS.icmpYes X0.here hx rfl (pc0 := 24) (pc' := 31) rfl (oD hby D19 18 rfl) rfl (flt hc24_13).2.2.2 (by decide) (by decide) ?_
                 show Steps _ _ _ (s₁.setTop (mkF m 31 #[iv (-p0), iv (0 : Int32), iv (-10000000 : Int32), iv (7 : Int32)] [])) _
                 refine XS.bipush X0.here hx rfl (oD hby D19 23 rfl) ?_
                 refine XS.iloadN X0.here hx rfl (oD hby D19 24 rfl) rfl ?_
                 refine XS.imul X0.here hx rfl (oD hby D19 25 rfl) rfl ?_
                 refine XS.istoreN X0.here hx rfl (oD hby D19 26 rfl) rfl rfl ?_
                 refine XS.iinc X0.here hx rfl (oD hby D19 27 rfl) rfl rfl ?_
                 refine XS.goto X0.here hx rfl (pc0 := 39) (pc' := 16) rfl (oD hby D19 28 rfl) (by decide) (by decide) ?_
                 refine XS.iloadN X0.here hx rfl (oD hby D19 13 rfl) rfl ?_
                 refine XS.bipush X0.here hx rfl (oD hby D19 14 rfl) ?_
                 refine XS.icmpNo X0.here hx rfl (oD hby D19 15 rfl) rfl (tlt (by decide : (8 : Int32) < (10 : Int32))).2.1 ?_
                 refine XS.iloadN X0.here hx rfl (oD hby D19 16 rfl) rfl ?_
                 refine XS.iloadN X0.here hx rfl (oD hby D19 17 rfl) rfl ?_
                 exact kt)
                by_cases hc24_15 : (-100000000 : Int32) < (-p0)
                · obtain ⟨fs, hr, hrun, hended, hW, hsame⟩ := X0.leave (v := some (.int (8 : Int32))) (fun h => by rw [Bd.returns] at h; cases h)
                  refine ⟨_, _, pre16 _ ?_, hrun, hended, _, _, rfl, ?_, ⟨_, rfl⟩, hW, hsame.mono (by decide) (by decide)⟩
                  · refine XS.icmpNo X0.here hx rfl (oD hby D19 18 rfl) rfl (tlt hc24_15).2.2.2 ?_
                    refine XS.iloadN X0.here hx rfl (oD hby D19 19 rfl) rfl ?_
                    refine XS.iloadN X0.here hx rfl (oD hby D19 20 rfl) rfl ?_
                    refine XS.iadd X0.here hx rfl (oD hby D19 21 rfl) rfl ?_
                    show Steps _ _ _ (s₁.setTop (mkF m 30 #[iv (-p0), iv (0 : Int32), iv (-100000000 : Int32), iv (8 : Int32)] [(.int (8 : Int32))])) _
                    exact retI X0 hx Bd.returns (oD hby D19 22 rfl) hr
                  · show own_QP (some (.int (own_ni p0))) h0 n0 _ s₁.heap _
                    rw [e0]
                    exact ⟨(congrArg (fun q => some (Value.int q)) (own_ss8 hv hc24_13 hc24_15)), N0, rfl⟩
                · have pre18 : own_V p e below _ s₁ (mkF m 24 #[iv (-p0), iv (0 : Int32), iv (-1000000000 : Int32), iv (9 : Int32)] [(.int (-1000000000 : Int32)), (.int (-p0))]) := fun t kt => pre16 t (by
                   refine XS.icmpYes X0.here hx rfl (pc0 := 24) (pc' := 31) rfl (oD hby D19 18 rfl) rfl (flt hc24_15).2.2.2 (by decide) (by decide) ?_
                   refine XS.bipush X0.here hx rfl (oD hby D19 23 rfl) ?_
                   refine XS.iloadN X0.here hx rfl (oD hby D19 24 rfl) rfl ?_
                   refine XS.imul X0.here hx rfl (oD hby D19 25 rfl) rfl ?_
                   refine XS.istoreN X0.here hx rfl (oD hby D19 26 rfl) rfl rfl ?_
                   refine XS.iinc X0.here hx rfl (oD hby D19 27 rfl) rfl rfl ?_
                   refine XS.goto X0.here hx rfl (pc0 := 39) (pc' := 16) rfl (oD hby D19 28 rfl) (by decide) (by decide) ?_
                   refine XS.iloadN X0.here hx rfl (oD hby D19 13 rfl) rfl ?_
                   refine XS.bipush X0.here hx rfl (oD hby D19 14 rfl) ?_
                   show Steps _ _ _ (s₁.setTop (mkF m 19 #[iv (-p0), iv (0 : Int32), iv (-1000000000 : Int32), iv (9 : Int32)] [(.int (10 : Int32)), (.int (9 : Int32))])) _
                   refine XS.icmpNo X0.here hx rfl (oD hby D19 15 rfl) rfl (tlt (by decide : (9 : Int32) < (10 : Int32))).2.1 ?_
                   refine XS.iloadN X0.here hx rfl (oD hby D19 16 rfl) rfl ?_
                   refine XS.iloadN X0.here hx rfl (oD hby D19 17 rfl) rfl ?_
                   exact kt)
                  by_cases hc24_17 : (-1000000000 : Int32) < (-p0)
                  · obtain ⟨fs, hr, hrun, hended, hW, hsame⟩ := X0.leave (v := some (.int (9 : Int32))) (fun h => by rw [Bd.returns] at h; cases h)
                    refine ⟨_, _, pre18 _ ?_, hrun, hended, _, _, rfl, ?_, ⟨_, rfl⟩, hW, hsame.mono (by decide) (by decide)⟩
                    · refine XS.icmpNo X0.here hx rfl (oD hby D19 18 rfl) rfl (tlt hc24_17).2.2.2 ?_
                      refine XS.iloadN X0.here hx rfl (oD hby D19 19 rfl) rfl ?_
                      refine XS.iloadN X0.here hx rfl (oD hby D19 20 rfl) rfl ?_
                      refine XS.iadd X0.here hx rfl (oD hby D19 21 rfl) rfl ?_
                      show Steps _ _ _ (s₁.setTop (mkF m 30 #[iv (-p0), iv (0 : Int32), iv (-1000000000 : Int32), iv (9 : Int32)] [(.int (9 : Int32))])) _
                      exact retI X0 hx Bd.returns (oD hby D19 22 rfl) hr
                    · show own_QP (some (.int (own_ni p0))) h0 n0 _ s₁.heap _
                      rw [e0]
                      exact ⟨(congrArg (fun q => some (Value.int q)) (own_ss9 hv hc24_15 hc24_17)), N0, rfl⟩
                  · obtain ⟨fs, hr, hrun, hended, hW, hsame⟩ := X0.leave (v := some (.int (10 : Int32))) (fun h => by rw [Bd.returns] at h; cases h)
                    refine ⟨_, _, pre18 _ ?_, hrun, hended, _, _, rfl, ?_, ⟨_, rfl⟩, hW, hsame.mono (by decide) (by decide)⟩
                    · refine XS.icmpYes X0.here hx rfl (pc0 := 24) (pc' := 31) rfl (oD hby D19 18 rfl) rfl (flt hc24_17).2.2.2 (by decide) (by decide) ?_
                      refine XS.bipush X0.here hx rfl (oD hby D19 23 rfl) ?_
                      refine XS.iloadN X0.here hx rfl (oD hby D19 24 rfl) rfl ?_
                      refine XS.imul X0.here hx rfl (oD hby D19 25 rfl) rfl ?_
                      refine XS.istoreN X0.here hx rfl (oD hby D19 26 rfl) rfl rfl ?_
                      refine XS.iinc X0.here hx rfl (oD hby D19 27 rfl) rfl rfl ?_
                      refine XS.goto X0.here hx rfl (pc0 := 39) (pc' := 16) rfl (oD hby D19 28 rfl) (by decide) (by decide) ?_
                      refine XS.iloadN X0.here hx rfl (oD hby D19 13 rfl) rfl ?_
                      refine XS.bipush X0.here hx rfl (oD hby D19 14 rfl) ?_
                      refine XS.icmpYes X0.here hx rfl (pc0 := 19) (pc' := 42) rfl (oD hby D19 15 rfl) rfl (flt (by decide : ¬ ((10 : Int32) < (10 : Int32)))).2.1 (by decide) (by decide) ?_
                      refine XS.bipush X0.here hx rfl (oD hby D19 29 rfl) ?_
                      refine XS.iloadN X0.here hx rfl (oD hby D19 30 rfl) rfl ?_
                      refine XS.iadd X0.here hx rfl (oD hby D19 31 rfl) rfl ?_
                      show Steps _ _ _ (s₁.setTop (mkF m 46 #[iv (-p0), iv (0 : Int32), iv (-1410065408 : Int32), iv (10 : Int32)] [(.int (10 : Int32))])) _
                      exact retI X0 hx Bd.returns (oD hby D19 32 rfl) hr
                    · show own_QP (some (.int (own_ni p0))) h0 n0 _ s₁.heap _
                      rw [e0]
                      exact ⟨(congrArg (fun q => some (Value.int q)) (own_ss10 hv hc24_17)), N0, rfl⟩

theorem ef_rmGC (m : MethodId) (x0 : Int32) (x1 : Int32) (x2 : Addr) : entryFrame m #[(.int x0), (.int x1), (.ref x2)] 7 = mkF m 0 #[iv x0, iv x1, rv x2, .unset, .unset, .unset, .unset] [] := by first | (simp [entryFrame, mkF, argsToLocals, Value.category]; done) | rfl
def Q_rmGC (Z : State) (p0 : Int32) (p1 : Int32) (u2 : Addr) (kb : ClassId) (cap : Int32) (bs : List Value) (xl : List Int32) (dO : Addr) (kO : ClassId) (vO : List Value) (dT : Addr) (kT : ClassId) (vT : List Value) (h0 : Heap) (n0 : Nat) (v : Option Value) (h : Heap) (L : List Loc) : Prop := ∃ (jr : Int32), ∃ (b2 : List Value), (v = (some (.int jr)) ∧ Fr n0 L ∧ Keep h0 h [u2] ∧ Arv Z h u2 kb .byte cap b2 (.int 0) ∧ (own_has b2 (xl ++ own_dl p0) ∧ own_cap cap b2))
theorem rmGC (l : Launch) (Z : State) (a0 : Array Value) (hw : own_W a0 Z) (ws : List Jvm.Cond) (p0 : Int32) (p1 : Int32) (u2 : Addr) (kb : ClassId) (cap : Int32) (bs : List Value) (xl : List Int32) (dO : Addr) (kO : ClassId) (vO : List Value) (dT : Addr) (kT : ClassId) (vT : List Value) (h0 : Heap) (n0 : Nat) (Z0 : n0 ≤ h0.size) (P_E_u2 : Exa Z h0 u2 "[B") (P_G_u2 : Arv Z h0 u2 kb .byte cap bs (.int 0)) (P_S_Integer_DigitOnes : Sta Z h0 "java/lang/Integer" "DigitOnes" "[B" (.ref dO)) (P_S_Integer_DigitTens : Sta Z h0 "java/lang/Integer" "DigitTens" "[B" (.ref dT)) (P_G_dO : Arv Z h0 dO kO .byte (100 : Int32) vO (.int 0)) (P_G_dT : Arv Z h0 dT kT .byte (100 : Int32) vT (.int 0)) (hO : own_do vO) (hT : own_dt vT) (neA : dO ≠ u2) (neB : dT ≠ u2) (hv : ¬ p0 < 0) (hg : own_gi bs xl cap p0 p1 0) (g_u2 : n0 ≤ u2) :
    own_MF l own_y42 (Jvm.Cond.code own_y42 jdk_33_method_12_code 7 (some .int)) ws ({ frames := 0, cells := 0, slots := 0, locals := 0 } : Room) #[(.int p0), (.int p1), (.ref u2)] Z h0 (Q_rmGC Z p0 p1 u2 kb cap bs xl dO kO vO dT kT vT h0 n0) := by
  refine own_enter (n0 := n0) (plainFor_of_name pn_19) (C := "java/lang/Integer") rfl (fun m => ef_rmGC m p0 p1 u2) fun p e s m below meth c s₁ Bd hx hby hml hown hnm hZ hh X0 e0 N0 pre0 => ?_
  have pre1 : own_V p e below _ s₁ (mkF m 22 #[iv (-p0), iv p1, rv u2, .unset, .unset, iv p1, iv (0 : Int32)] []) := fun t kt => pre0 t (by
   refine XS.iloadN X0.here hx rfl (oD hby D21 0 rfl) rfl ?_
   refine XS.istore X0.here hx rfl (oD hby D21 1 rfl) rfl rfl ?_
   refine XS.iloadN X0.here hx rfl (oD hby D21 2 rfl) rfl ?_
   refine XS.ifYes X0.here hx rfl (pc0 := 4) (pc' := 11) rfl (oD hby D21 3 rfl) rfl ((if0 _ _).trans (flt hv).2.1) (by decide) (by decide) ?_
   refine XS.iconst X0.here hx rfl (oD hby D21 4 rfl) ?_
   refine XS.istore X0.here hx rfl (oD hby D21 5 rfl) rfl rfl ?_
   refine XS.iload X0.here hx rfl (oD hby D21 6 rfl) rfl ?_
   refine XS.ifNo X0.here hx rfl (oD hby D21 7 rfl) rfl ((if0 _ _).trans (teq (by decide : (0 : Int32) = (0 : Int32))).2) ?_
   refine XS.iloadN X0.here hx rfl (oD hby D21 8 rfl) rfl ?_
   refine XS.ineg X0.here hx rfl (oD hby D21 9 rfl) rfl ?_
   refine XS.istoreN X0.here hx rfl (oD hby D21 10 rfl) rfl rfl ?_
   exact kt)
  rw [(rfl : (-p0) = own_iq 0 p0)] at pre1
  have Mg109 : ∃ (T109 : State) (L109 : List Loc) (x109_L0 : Int32) (y3 : Slot) (y4 : Slot) (x109_L5 : Int32) (jx : Int32) (ix : Int32) (bx : List Value), Stand p l e ({ frames := 0, cells := 0, slots := 0, locals := 0 } : Room) s m #[(.int p0), (.int p1), (.ref u2)] below meth c T109 L109 0 0 ∧ Fr n0 L109 ∧ Keep h0 T109.heap [u2] ∧ n0 ≤ T109.heap.size ∧ Exa Z T109.heap u2 "[B" ∧ Sta Z T109.heap "java/lang/Integer" "DigitOnes" "[B" (.ref dO) ∧ Sta Z T109.heap "java/lang/Integer" "DigitTens" "[B" (.ref dT) ∧ Arv Z T109.heap dO kO .byte (100 : Int32) vO (.int 0) ∧ Arv Z T109.heap dT kT .byte (100 : Int32) vT (.int 0) ∧ Arv Z T109.heap u2 kb .byte cap bx (.int 0) ∧ (own_gx bx xl cap p0 jx ix) ∧ x109_L0 = ix ∧ x109_L5 = jx ∧ own_V p e below (s₁.setTop (entryFrame m #[(.int p0), (.int p1), (.ref u2)] 7)) T109 (mkF m 72 #[iv x109_L0, iv p1, rv u2, y3, y4, iv x109_L5, iv (0 : Int32)] []) := by
    have pre3 : own_V p e below _ s₁ (mkF m 25 #[iv (own_iq 0 p0), iv p1, rv u2, .unset, .unset, iv p1, iv (0 : Int32)] [(.int (-100 : Int32)), (.int (own_iq 0 p0))]) := fun t kt => pre1 t (by
     refine XS.iloadN X0.here hx rfl (oD hby D21 11 rfl) rfl ?_
     refine XS.bipush X0.here hx rfl (oD hby D21 12 rfl) ?_
     exact kt)
    by_cases hc25_2 : (-100 : Int32) < (own_iq 0 p0)
    · have pre4 : own_V p e below _ s₁ (mkF m 72 #[iv (own_iq 0 p0), iv p1, rv u2, .unset, .unset, iv p1, iv (0 : Int32)] []) := fun t kt => pre3 t (by
       refine XS.icmpYes X0.here hx rfl (pc0 := 25) (pc' := 72) rfl (oD hby D21 13 rfl) rfl (tlt hc25_2).2.2.1 (by decide) (by decide) ?_
       exact kt)
      exact ⟨s₁, _, (own_iq 0 p0), (.unset), (.unset), p1, p1, (own_iq 0 p0), bs, X0.more (by decide) (by decide), N0, (by rw [e0]; exact (Keep.refl h0 [u2])), (by rw [e0]; exact Z0), (by rw [e0]; exact P_E_u2), (by rw [e0]; exact P_S_Integer_DigitOnes), (by rw [e0]; exact P_S_Integer_DigitTens), (by rw [e0]; exact P_G_dO), (by rw [e0]; exact P_G_dT), (by rw [e0]; exact P_G_u2), ⟨0, rfl, hg, hc25_2, (own_ndb p0).1, fun q => own_nF0 hv hc25_2 q, fun q => own_nE0 hv q⟩, rfl, rfl, pre4⟩
    · have pre5 : own_V p e below _ s₁ (mkF m 41 #[iv (own_iq 0 p0), iv p1, rv u2, iv ((own_iq 0 p0) / (100 : Int32)), iv ((((own_iq 0 p0) / (100 : Int32)) * (100 : Int32)) - (own_iq 0 p0)), iv p1, iv (0 : Int32)] []) := fun t kt => pre3 t (by
       refine XS.icmpNo X0.here hx rfl (oD hby D21 13 rfl) rfl (flt hc25_2).2.2.1 ?_
       refine XS.iloadN X0.here hx rfl (oD hby D21 14 rfl) rfl ?_
       refine XS.bipush X0.here hx rfl (oD hby D21 15 rfl) ?_
       refine XS.idiv X0.here hx rfl (oD hby D21 16 rfl) rfl (by decide : ¬ ((100 : Int32) = (0 : Int32))) ?_
       refine XS.istoreN X0.here hx rfl (oD hby D21 17 rfl) rfl rfl ?_
       refine XS.iloadN X0.here hx rfl (oD hby D21 18 rfl) rfl ?_
       refine XS.bipush X0.here hx rfl (oD hby D21 19 rfl) ?_
       refine XS.imul X0.here hx rfl (oD hby D21 20 rfl) rfl ?_
       refine XS.iloadN X0.here hx rfl (oD hby D21 21 rfl) rfl ?_
       show Steps _ _ _ (s₁.setTop (mkF m 38 #[iv (own_iq 0 p0), iv p1, rv u2, iv ((own_iq 0 p0) / (100 : Int32)), .unset, iv p1, iv (0 : Int32)] [(.int (own_iq 0 p0)), (.int (((own_iq 0 p0) / (100 : Int32)) * (100 : Int32)))])) _
       refine XS.isub X0.here hx rfl (oD hby D21 22 rfl) rfl ?_
       refine XS.istore X0.here hx rfl (oD hby D21 23 rfl) rfl rfl ?_
       exact kt)
      rw [(rfl : ((((own_iq 0 p0) / (100 : Int32)) * (100 : Int32)) - (own_iq 0 p0)) = own_r 0 p0)] at pre5
      obtain ⟨T6, X6, e6, st6⟩ := getS2 X0 hx hZ hown (host := "") (Or.inl (oG hw 144 rfl)) Via.refl e0 P_S_Integer_DigitOnes (g := (mkF m 49 #[iv ((own_iq 0 p0) / (100 : Int32)), iv p1, rv u2, iv ((own_iq 0 p0) / (100 : Int32)), iv (own_r 0 p0), iv (p1 + (-1 : Int32)), iv (0 : Int32)] [(.int (p1 + (-1 : Int32))), (.ref u2)])) rfl (oD hby D21 29 rfl)
      obtain ⟨cl7, Ar7, qq7, S7, N7_, H7, G7⟩ := id P_G_dO
      have hin7 : ¬ ((own_r 0 p0) < 0 ∨ cl7.slots.size ≤ ((own_r 0 p0)).toNatClampNeg) := inb_of S7 (own_rb 0 hv)
      have hat7 : cl7.slots[((own_r 0 p0)).toNatClampNeg]? = some (.int (own_at vO (own_r 0 p0))) := own_atv H7 G7 hin7
      obtain ⟨cl8, Ar8, qq8, S8, N8_, H8, G8⟩ := id P_G_u2
      have hin8 : ¬ ((p1 + (-1 : Int32)) < 0 ∨ cl8.slots.size ≤ ((p1 + (-1 : Int32))).toNatClampNeg) := inb_of S8 (own_gib hg (Nat.lt_trans (Nat.lt_of_succ_le (Nat.le_of_ble_eq_true rfl)) (own_nL0 hv hc25_2)))
      obtain ⟨T9, h9, X9, e9, W9, st9⟩ := stB X6 hx hZ e6 Ar8 (j := (p1 + (-1 : Int32))) hin8 (g := (mkF m 55 #[iv ((own_iq 0 p0) / (100 : Int32)), iv p1, rv u2, iv ((own_iq 0 p0) / (100 : Int32)), iv (own_r 0 p0), iv (p1 + (-1 : Int32)), iv (0 : Int32)] [(.int (own_at vO (own_r 0 p0))), (.int (p1 + (-1 : Int32))), (.ref u2)])) rfl rfl (oD hby D21 32 rfl)
      obtain ⟨vx9, V9, gi9⟩ := own_gst (t := 0) P_G_u2 W9 hg (Nat.lt_trans (Nat.lt_of_succ_le (Nat.le_of_ble_eq_true rfl)) (own_nL0 hv hc25_2)) (own_one 0 hv hO)
      have N10 := Fr.snoc X9 N0 g_u2
      have K11 : Keep h0 h9 [u2] := (Keep.refl h0 [u2]).wr W9 (Or.inl (List.mem_of_getElem? (i := 0) rfl))
      have f12 := (P_S_Integer_DigitTens.wr W9)
      obtain ⟨T13, X13, e13, st13⟩ := getS2 X9 hx hZ hown (host := "") (Or.inl (oG hw 248 rfl)) Via.refl e9 f12 (g := (mkF m 62 #[iv ((own_iq 0 p0) / (100 : Int32)), iv p1, rv u2, iv ((own_iq 0 p0) / (100 : Int32)), iv (own_r 0 p0), iv ((p1 + (-1 : Int32)) + (-1 : Int32)), iv (0 : Int32)] [(.int ((p1 + (-1 : Int32)) + (-1 : Int32))), (.ref u2)])) rfl (oD hby D21 36 rfl)
      have f14 := (P_G_dT.other W9 neB)
      obtain ⟨cl15, Ar15, qq15, S15, N15_, H15, G15⟩ := id f14
      have hin15 : ¬ ((own_r 0 p0) < 0 ∨ cl15.slots.size ≤ ((own_r 0 p0)).toNatClampNeg) := inb_of S15 (own_rb 0 hv)
      have hat15 : cl15.slots[((own_r 0 p0)).toNatClampNeg]? = some (.int (own_at vT (own_r 0 p0))) := own_atv H15 G15 hin15
      obtain ⟨cl16, Ar16, qq16, S16, N16_, H16, G16⟩ := id V9
      have hin16 : ¬ (((p1 + (-1 : Int32)) + (-1 : Int32)) < 0 ∨ cl16.slots.size ≤ (((p1 + (-1 : Int32)) + (-1 : Int32))).toNatClampNeg) := inb_of S16 (own_gib gi9 (Nat.lt_trans (Nat.lt_of_succ_le (Nat.le_of_ble_eq_true rfl)) (own_nL0 hv hc25_2)))
      obtain ⟨T17, h17, X17, e17, W17, st17⟩ := stB X13 hx hZ e13 Ar16 (j := ((p1 + (-1 : Int32)) + (-1 : Int32))) hin16 (g := (mkF m 68 #[iv ((own_iq 0 p0) / (100 : Int32)), iv p1, rv u2, iv ((own_iq 0 p0) / (100 : Int32)), iv (own_r 0 p0), iv ((p1 + (-1 : Int32)) + (-1 : Int32)), iv (0 : Int32)] [(.int (own_at vT (own_r 0 p0))), (.int ((p1 + (-1 : Int32)) + (-1 : Int32))), (.ref u2)])) rfl rfl (oD hby D21 39 rfl)
      obtain ⟨vx17, V17, gi17⟩ := own_gst (t := 1) V9 W17 gi9 (Nat.lt_trans (Nat.lt_of_succ_le (Nat.le_of_ble_eq_true rfl)) (own_nL0 hv hc25_2)) (own_ten 0 hv hT)
      have N18 := Fr.snoc X17 N10 g_u2
      have K19 : Keep h0 h17 [u2] := K11.wr W17 (Or.inl (List.mem_of_getElem? (i := 0) rfl))
      have pre20 : own_V p e below _ T17 (mkF m 22 #[iv ((own_iq 0 p0) / (100 : Int32)), iv p1, rv u2, iv ((own_iq 0 p0) / (100 : Int32)), iv (own_r 0 p0), iv ((p1 + (-1 : Int32)) + (-1 : Int32)), iv (0 : Int32)] []) := fun t kt => pre5 t (by
       refine XS.iloadN X0.here hx rfl (oD hby D21 24 rfl) rfl ?_
       refine XS.istoreN X0.here hx rfl (oD hby D21 25 rfl) rfl rfl ?_
       refine XS.aloadN X0.here hx rfl (oD hby D21 26 rfl) rfl rfl ?_
       refine XS.iinc X0.here hx rfl (oD hby D21 27 rfl) rfl rfl ?_
       refine XS.iload X0.here hx rfl (oD hby D21 28 rfl) rfl ?_
       refine st6 _ ?_
       refine XS.iload X6.here hx rfl (oD hby D21 30 rfl) rfl ?_
       refine X6.baloadBytes hx (j := (own_r 0 p0)) (v := (.int (own_at vO (own_r 0 p0)))) (by rw [e6]; exact Ar7.1) (State.isArrayOf_alike hZ.alike Ar7.2.1) Ar7.2.2 hin7 hat7 (g := (mkF m 54 #[iv ((own_iq 0 p0) / (100 : Int32)), iv p1, rv u2, iv ((own_iq 0 p0) / (100 : Int32)), iv (own_r 0 p0), iv (p1 + (-1 : Int32)), iv (0 : Int32)] [(.int (own_r 0 p0)), (.ref dO), (.int (p1 + (-1 : Int32))), (.ref u2)])) rfl rfl (oD hby D21 31 rfl) _ ?_
       refine st9 _ ?_
       refine XS.aloadN X9.here hx rfl (oD hby D21 33 rfl) rfl rfl ?_
       refine XS.iinc X9.here hx rfl (oD hby D21 34 rfl) rfl rfl ?_
       refine XS.iload X9.here hx rfl (oD hby D21 35 rfl) rfl ?_
       refine st13 _ ?_
       refine XS.iload X13.here hx rfl (oD hby D21 37 rfl) rfl ?_
       refine X13.baloadBytes hx (j := (own_r 0 p0)) (v := (.int (own_at vT (own_r 0 p0)))) (by rw [e13]; exact Ar15.1) (State.isArrayOf_alike hZ.alike Ar15.2.1) Ar15.2.2 hin15 hat15 (g := (mkF m 67 #[iv ((own_iq 0 p0) / (100 : Int32)), iv p1, rv u2, iv ((own_iq 0 p0) / (100 : Int32)), iv (own_r 0 p0), iv ((p1 + (-1 : Int32)) + (-1 : Int32)), iv (0 : Int32)] [(.int (own_r 0 p0)), (.ref dT), (.int ((p1 + (-1 : Int32)) + (-1 : Int32))), (.ref u2)])) rfl rfl (oD hby D21 38 rfl) _ ?_
       refine st17 _ ?_
       refine XS.goto X17.here hx rfl (pc0 := 69) (pc' := 22) rfl (oD hby D21 40 rfl) (by decide) (by decide) ?_
       exact kt)
      rw [(rfl : ((own_iq 0 p0) / (100 : Int32)) = own_iq 1 p0)] at pre20
      have pre22 : own_V p e below _ T17 (mkF m 25 #[iv (own_iq 1 p0), iv p1, rv u2, iv (own_iq 1 p0), iv (own_r 0 p0), iv ((p1 + (-1 : Int32)) + (-1 : Int32)), iv (0 : Int32)] [(.int (-100 : Int32)), (.int (own_iq 1 p0))]) := fun t kt => pre20 t (by
       refine XS.iloadN X17.here hx rfl (oD hby D21 11 rfl) rfl ?_
       refine XS.bipush X17.here hx rfl (oD hby D21 12 rfl) ?_
       exact kt)
      by_cases hc25_21 : (-100 : Int32) < (own_iq 1 p0)
      · have pre23 : own_V p e below _ T17 (mkF m 72 #[iv (own_iq 1 p0), iv p1, rv u2, iv (own_iq 1 p0), iv (own_r 0 p0), iv ((p1 + (-1 : Int32)) + (-1 : Int32)), iv (0 : Int32)] []) := fun t kt => pre22 t (by
         refine XS.icmpYes X17.here hx rfl (pc0 := 25) (pc' := 72) rfl (oD hby D21 13 rfl) rfl (tlt hc25_21).2.2.1 (by decide) (by decide) ?_
         exact kt)
        have f24 := (Nat.le_trans (Nat.le_trans Z0 (Keep.of_wr W9).1) (Keep.of_wr W17).1)
        have f25 := ((P_E_u2.wr W9).wr W17)
        have f26 := ((P_S_Integer_DigitOnes.wr W9).wr W17)
        have f27 := (f12.wr W17)
        have f28 := ((P_G_dO.other W9 neA).other W17 neA)
        have f29 := (f14.other W17 neB)
        exact ⟨T17, _, (own_iq 1 p0), (iv (own_iq 1 p0)), (iv (own_r 0 p0)), ((p1 + (-1 : Int32)) + (-1 : Int32)), ((p1 + (-1 : Int32)) + (-1 : Int32)), (own_iq 1 p0), vx17, X17.more (by decide) (by decide), N18, (by rw [e17]; exact K19), (by rw [e17]; exact f24), (by rw [e17]; exact f25), (by rw [e17]; exact f26), (by rw [e17]; exact f27), (by rw [e17]; exact f28), (by rw [e17]; exact f29), (by rw [e17]; exact V17), ⟨1, rfl, gi17, hc25_21, (own_nL0 hv hc25_2), fun q => own_nF1 hv hc25_21 q, fun q => own_nE1 hv hc25_2 q⟩, rfl, rfl, pre23⟩
      · have pre30 : own_V p e below _ T17 (mkF m 41 #[iv (own_iq 1 p0), iv p1, rv u2, iv ((own_iq 1 p0) / (100 : Int32)), iv ((((own_iq 1 p0) / (100 : Int32)) * (100 : Int32)) - (own_iq 1 p0)), iv ((p1 + (-1 : Int32)) + (-1 : Int32)), iv (0 : Int32)] []) := fun t kt => pre22 t (by
         refine XS.icmpNo X17.here hx rfl (oD hby D21 13 rfl) rfl (flt hc25_21).2.2.1 ?_
         refine XS.iloadN X17.here hx rfl (oD hby D21 14 rfl) rfl ?_
         show Steps _ _ _ (T17.setTop (mkF m 29 #[iv (own_iq 1 p0), iv p1, rv u2, iv (own_iq 1 p0), iv (own_r 0 p0), iv ((p1 + (-1 : Int32)) + (-1 : Int32)), iv (0 : Int32)] [(.int (own_iq 1 p0))])) _
         refine XS.bipush X17.here hx rfl (oD hby D21 15 rfl) ?_
         refine XS.idiv X17.here hx rfl (oD hby D21 16 rfl) rfl (by decide : ¬ ((100 : Int32) = (0 : Int32))) ?_
         refine XS.istoreN X17.here hx rfl (oD hby D21 17 rfl) rfl rfl ?_
         refine XS.iloadN X17.here hx rfl (oD hby D21 18 rfl) rfl ?_
         refine XS.bipush X17.here hx rfl (oD hby D21 19 rfl) ?_
         refine XS.imul X17.here hx rfl (oD hby D21 20 rfl) rfl ?_
         refine XS.iloadN X17.here hx rfl (oD hby D21 21 rfl) rfl ?_
         refine XS.isub X17.here hx rfl (oD hby D21 22 rfl) rfl ?_
         refine XS.istore X17.here hx rfl (oD hby D21 23 rfl) rfl rfl ?_
         exact kt)
        rw [(rfl : ((((own_iq 1 p0) / (100 : Int32)) * (100 : Int32)) - (own_iq 1 p0)) = own_r 1 p0)] at pre30
        have f31 := ((P_S_Integer_DigitOnes.wr W9).wr W17)
        obtain ⟨T32, X32, e32, st32⟩ := getS2 X17 hx hZ hown (host := "") (Or.inl (oG hw 144 rfl)) Via.refl e17 f31 (g := (mkF m 49 #[iv ((own_iq 1 p0) / (100 : Int32)), iv p1, rv u2, iv ((own_iq 1 p0) / (100 : Int32)), iv (own_r 1 p0), iv (((p1 + (-1 : Int32)) + (-1 : Int32)) + (-1 : Int32)), iv (0 : Int32)] [(.int (((p1 + (-1 : Int32)) + (-1 : Int32)) + (-1 : Int32))), (.ref u2)])) rfl (oD hby D21 29 rfl)
        have f33 := ((P_G_dO.other W9 neA).other W17 neA)
        obtain ⟨cl34, Ar34, qq34, S34, N34_, H34, G34⟩ := id f33
        have hin34 : ¬ ((own_r 1 p0) < 0 ∨ cl34.slots.size ≤ ((own_r 1 p0)).toNatClampNeg) := inb_of S34 (own_rb 1 hv)
        have hat34 : cl34.slots[((own_r 1 p0)).toNatClampNeg]? = some (.int (own_at vO (own_r 1 p0))) := own_atv H34 G34 hin34
        obtain ⟨cl35, Ar35, qq35, S35, N35_, H35, G35⟩ := id V17
        have hin35 : ¬ ((((p1 + (-1 : Int32)) + (-1 : Int32)) + (-1 : Int32)) < 0 ∨ cl35.slots.size ≤ ((((p1 + (-1 : Int32)) + (-1 : Int32)) + (-1 : Int32))).toNatClampNeg) := inb_of S35 (own_gib gi17 (Nat.lt_trans (Nat.lt_of_succ_le (Nat.le_of_ble_eq_true rfl)) (own_nL1 hv hc25_21)))
        obtain ⟨T36, h36, X36, e36, W36, st36⟩ := stB X32 hx hZ e32 Ar35 (j := (((p1 + (-1 : Int32)) + (-1 : Int32)) + (-1 : Int32))) hin35 (g := (mkF m 55 #[iv ((own_iq 1 p0) / (100 : Int32)), iv p1, rv u2, iv ((own_iq 1 p0) / (100 : Int32)), iv (own_r 1 p0), iv (((p1 + (-1 : Int32)) + (-1 : Int32)) + (-1 : Int32)), iv (0 : Int32)] [(.int (own_at vO (own_r 1 p0))), (.int (((p1 + (-1 : Int32)) + (-1 : Int32)) + (-1 : Int32))), (.ref u2)])) rfl rfl (oD hby D21 32 rfl)
        obtain ⟨vx36, V36, gi36⟩ := own_gst (t := 2) V17 W36 gi17 (Nat.lt_trans (Nat.lt_of_succ_le (Nat.le_of_ble_eq_true rfl)) (own_nL1 hv hc25_21)) (own_one 1 hv hO)
        have N37 := Fr.snoc X36 N18 g_u2
        have K38 : Keep h0 h36 [u2] := K19.wr W36 (Or.inl (List.mem_of_getElem? (i := 0) rfl))
        have f39 := ((f12.wr W17).wr W36)
        obtain ⟨T40, X40, e40, st40⟩ := getS2 X36 hx hZ hown (host := "") (Or.inl (oG hw 248 rfl)) Via.refl e36 f39 (g := (mkF m 62 #[iv ((own_iq 1 p0) / (100 : Int32)), iv p1, rv u2, iv ((own_iq 1 p0) / (100 : Int32)), iv (own_r 1 p0), iv ((((p1 + (-1 : Int32)) + (-1 : Int32)) + (-1 : Int32)) + (-1 : Int32)), iv (0 : Int32)] [(.int ((((p1 + (-1 : Int32)) + (-1 : Int32)) + (-1 : Int32)) + (-1 : Int32))), (.ref u2)])) rfl (oD hby D21 36 rfl)
        have f41 := ((f14.other W17 neB).other W36 neB)
        obtain ⟨cl42, Ar42, qq42, S42, N42_, H42, G42⟩ := id f41
        have hin42 : ¬ ((own_r 1 p0) < 0 ∨ cl42.slots.size ≤ ((own_r 1 p0)).toNatClampNeg) := inb_of S42 (own_rb 1 hv)
        have hat42 : cl42.slots[((own_r 1 p0)).toNatClampNeg]? = some (.int (own_at vT (own_r 1 p0))) := own_atv H42 G42 hin42
        obtain ⟨cl43, Ar43, qq43, S43, N43_, H43, G43⟩ := id V36
        have hin43 : ¬ (((((p1 + (-1 : Int32)) + (-1 : Int32)) + (-1 : Int32)) + (-1 : Int32)) < 0 ∨ cl43.slots.size ≤ (((((p1 + (-1 : Int32)) + (-1 : Int32)) + (-1 : Int32)) + (-1 : Int32))).toNatClampNeg) := inb_of S43 (own_gib gi36 (Nat.lt_trans (Nat.lt_of_succ_le (Nat.le_of_ble_eq_true rfl)) (own_nL1 hv hc25_21)))
        obtain ⟨T44, h44, X44, e44, W44, st44⟩ := stB X40 hx hZ e40 Ar43 (j := ((((p1 + (-1 : Int32)) + (-1 : Int32)) + (-1 : Int32)) + (-1 : Int32))) hin43 (g := (mkF m 68 #[iv ((own_iq 1 p0) / (100 : Int32)), iv p1, rv u2, iv ((own_iq 1 p0) / (100 : Int32)), iv (own_r 1 p0), iv ((((p1 + (-1 : Int32)) + (-1 : Int32)) + (-1 : Int32)) + (-1 : Int32)), iv (0 : Int32)] [(.int (own_at vT (own_r 1 p0))), (.int ((((p1 + (-1 : Int32)) + (-1 : Int32)) + (-1 : Int32)) + (-1 : Int32))), (.ref u2)])) rfl rfl (oD hby D21 39 rfl)
        obtain ⟨vx44, V44, gi44⟩ := own_gst (t := 3) V36 W44 gi36 (Nat.lt_trans (Nat.lt_of_succ_le (Nat.le_of_ble_eq_true rfl)) (own_nL1 hv hc25_21)) (own_ten 1 hv hT)
        have N45 := Fr.snoc X44 N37 g_u2
        have K46 : Keep h0 h44 [u2] := K38.wr W44 (Or.inl (List.mem_of_getElem? (i := 0) rfl))
        have pre47 : own_V p e below _ T44 (mkF m 22 #[iv ((own_iq 1 p0) / (100 : Int32)), iv p1, rv u2, iv ((own_iq 1 p0) / (100 : Int32)), iv (own_r 1 p0), iv ((((p1 + (-1 : Int32)) + (-1 : Int32)) + (-1 : Int32)) + (-1 : Int32)), iv (0 : Int32)] []) := fun t kt => pre30 t (by
         refine XS.iloadN X17.here hx rfl (oD hby D21 24 rfl) rfl ?_
         refine XS.istoreN X17.here hx rfl (oD hby D21 25 rfl) rfl rfl ?_
         refine XS.aloadN X17.here hx rfl (oD hby D21 26 rfl) rfl rfl ?_
         refine XS.iinc X17.here hx rfl (oD hby D21 27 rfl) rfl rfl ?_
         refine XS.iload X17.here hx rfl (oD hby D21 28 rfl) rfl ?_
         refine st32 _ ?_
         refine XS.iload X32.here hx rfl (oD hby D21 30 rfl) rfl ?_
         refine X32.baloadBytes hx (j := (own_r 1 p0)) (v := (.int (own_at vO (own_r 1 p0)))) (by rw [e32]; exact Ar34.1) (State.isArrayOf_alike hZ.alike Ar34.2.1) Ar34.2.2 hin34 hat34 (g := (mkF m 54 #[iv ((own_iq 1 p0) / (100 : Int32)), iv p1, rv u2, iv ((own_iq 1 p0) / (100 : Int32)), iv (own_r 1 p0), iv (((p1 + (-1 : Int32)) + (-1 : Int32)) + (-1 : Int32)), iv (0 : Int32)] [(.int (own_r 1 p0)), (.ref dO), (.int (((p1 + (-1 : Int32)) + (-1 : Int32)) + (-1 : Int32))), (.ref u2)])) rfl rfl (oD hby D21 31 rfl) _ ?_
         refine st36 _ ?_
         refine XS.aloadN X36.here hx rfl (oD hby D21 33 rfl) rfl rfl ?_
         refine XS.iinc X36.here hx rfl (oD hby D21 34 rfl) rfl rfl ?_
         refine XS.iload X36.here hx rfl (oD hby D21 35 rfl) rfl ?_
         refine st40 _ ?_
         refine XS.iload X40.here hx rfl (oD hby D21 37 rfl) rfl ?_
         refine X40.baloadBytes hx (j := (own_r 1 p0)) (v := (.int (own_at vT (own_r 1 p0)))) (by rw [e40]; exact Ar42.1) (State.isArrayOf_alike hZ.alike Ar42.2.1) Ar42.2.2 hin42 hat42 (g := (mkF m 67 #[iv ((own_iq 1 p0) / (100 : Int32)), iv p1, rv u2, iv ((own_iq 1 p0) / (100 : Int32)), iv (own_r 1 p0), iv ((((p1 + (-1 : Int32)) + (-1 : Int32)) + (-1 : Int32)) + (-1 : Int32)), iv (0 : Int32)] [(.int (own_r 1 p0)), (.ref dT), (.int ((((p1 + (-1 : Int32)) + (-1 : Int32)) + (-1 : Int32)) + (-1 : Int32))), (.ref u2)])) rfl rfl (oD hby D21 38 rfl) _ ?_
         show Steps _ _ _ (T40.setTop (mkF m 68 #[iv ((own_iq 1 p0) / (100 : Int32)), iv p1, rv u2, iv ((own_iq 1 p0) / (100 : Int32)), iv (own_r 1 p0), iv ((((p1 + (-1 : Int32)) + (-1 : Int32)) + (-1 : Int32)) + (-1 : Int32)), iv (0 : Int32)] [(.int (own_at vT (own_r 1 p0))), (.int ((((p1 + (-1 : Int32)) + (-1 : Int32)) + (-1 : Int32)) + (-1 : Int32))), (.ref u2)])) _
         refine st44 _ ?_
         refine XS.goto X44.here hx rfl (pc0 := 69) (pc' := 22) rfl (oD hby D21 40 rfl) (by decide) (by decide) ?_
         exact kt)
        rw [(rfl : ((own_iq 1 p0) / (100 : Int32)) = own_iq 2 p0)] at pre47
        have pre49 : own_V p e below _ T44 (mkF m 25 #[iv (own_iq 2 p0), iv p1, rv u2, iv (own_iq 2 p0), iv (own_r 1 p0), iv ((((p1 + (-1 : Int32)) + (-1 : Int32)) + (-1 : Int32)) + (-1 : Int32)), iv (0 : Int32)] [(.int (-100 : Int32)), (.int (own_iq 2 p0))]) := fun t kt => pre47 t (by
         refine XS.iloadN X44.here hx rfl (oD hby D21 11 rfl) rfl ?_
         refine XS.bipush X44.here hx rfl (oD hby D21 12 rfl) ?_
         exact kt)
        by_cases hc25_48 : (-100 : Int32) < (own_iq 2 p0)
        · have pre50 : own_V p e below _ T44 (mkF m 72 #[iv (own_iq 2 p0), iv p1, rv u2, iv (own_iq 2 p0), iv (own_r 1 p0), iv ((((p1 + (-1 : Int32)) + (-1 : Int32)) + (-1 : Int32)) + (-1 : Int32)), iv (0 : Int32)] []) := fun t kt => pre49 t (by
           refine XS.icmpYes X44.here hx rfl (pc0 := 25) (pc' := 72) rfl (oD hby D21 13 rfl) rfl (tlt hc25_48).2.2.1 (by decide) (by decide) ?_
           exact kt)
          have f51 := (Nat.le_trans (Nat.le_trans (Nat.le_trans (Nat.le_trans Z0 (Keep.of_wr W9).1) (Keep.of_wr W17).1) (Keep.of_wr W36).1) (Keep.of_wr W44).1)
          have f52 := ((((P_E_u2.wr W9).wr W17).wr W36).wr W44)
          have f53 := ((f31.wr W36).wr W44)
          have f54 := (f39.wr W44)
          have f55 := ((f33.other W36 neA).other W44 neA)
          have f56 := (f41.other W44 neB)
          exact ⟨T44, _, (own_iq 2 p0), (iv (own_iq 2 p0)), (iv (own_r 1 p0)), ((((p1 + (-1 : Int32)) + (-1 : Int32)) + (-1 : Int32)) + (-1 : Int32)), ((((p1 + (-1 : Int32)) + (-1 : Int32)) + (-1 : Int32)) + (-1 : Int32)), (own_iq 2 p0), vx44, X44.more (by decide) (by decide), N45, (by rw [e44]; exact K46), (by rw [e44]; exact f51), (by rw [e44]; exact f52), (by rw [e44]; exact f53), (by rw [e44]; exact f54), (by rw [e44]; exact f55), (by rw [e44]; exact f56), (by rw [e44]; exact V44), ⟨2, rfl, gi44, hc25_48, (own_nL1 hv hc25_21), fun q => own_nF2 hv hc25_48 q, fun q => own_nE2 hv hc25_21 q⟩, rfl, rfl, pre50⟩
        · have pre57 : own_V p e below _ T44 (mkF m 41 #[iv (own_iq 2 p0), iv p1, rv u2, iv ((own_iq 2 p0) / (100 : Int32)), iv ((((own_iq 2 p0) / (100 : Int32)) * (100 : Int32)) - (own_iq 2 p0)), iv ((((p1 + (-1 : Int32)) + (-1 : Int32)) + (-1 : Int32)) + (-1 : Int32)), iv (0 : Int32)] []) := fun t kt => pre49 t (by
           refine XS.icmpNo X44.here hx rfl (oD hby D21 13 rfl) rfl (flt hc25_48).2.2.1 ?_
           refine XS.iloadN X44.here hx rfl (oD hby D21 14 rfl) rfl ?_
           refine XS.bipush X44.here hx rfl (oD hby D21 15 rfl) ?_
           refine XS.idiv X44.here hx rfl (oD hby D21 16 rfl) rfl (by decide : ¬ ((100 : Int32) = (0 : Int32))) ?_
           refine XS.istoreN X44.here hx rfl (oD hby D21 17 rfl) rfl rfl ?_
           refine XS.iloadN X44.here hx rfl (oD hby D21 18 rfl) rfl ?_
           refine XS.bipush X44.here hx rfl (oD hby D21 19 rfl) ?_
           refine XS.imul X44.here hx rfl (oD hby D21 20 rfl) rfl ?_
           refine XS.iloadN X44.here hx rfl (oD hby D21 21 rfl) rfl ?_
           refine XS.isub X44.here hx rfl (oD hby D21 22 rfl) rfl ?_
           refine XS.istore X44.here hx rfl (oD hby D21 23 rfl) rfl rfl ?_
           exact kt)
          rw [(rfl : ((((own_iq 2 p0) / (100 : Int32)) * (100 : Int32)) - (own_iq 2 p0)) = own_r 2 p0)] at pre57
          have f58 := ((f31.wr W36).wr W44)
          obtain ⟨T59, X59, e59, st59⟩ := getS2 X44 hx hZ hown (host := "") (Or.inl (oG hw 144 rfl)) Via.refl e44 f58 (g := (mkF m 49 #[iv ((own_iq 2 p0) / (100 : Int32)), iv p1, rv u2, iv ((own_iq 2 p0) / (100 : Int32)), iv (own_r 2 p0), iv (((((p1 + (-1 : Int32)) + (-1 : Int32)) + (-1 : Int32)) + (-1 : Int32)) + (-1 : Int32)), iv (0 : Int32)] [(.int (((((p1 + (-1 : Int32)) + (-1 : Int32)) + (-1 : Int32)) + (-1 : Int32)) + (-1 : Int32))), (.ref u2)])) rfl (oD hby D21 29 rfl)
          have f60 := ((f33.other W36 neA).other W44 neA)
          obtain ⟨cl61, Ar61, qq61, S61, N61_, H61, G61⟩ := id f60
          have hin61 : ¬ ((own_r 2 p0) < 0 ∨ cl61.slots.size ≤ ((own_r 2 p0)).toNatClampNeg) := inb_of S61 (own_rb 2 hv)
          have hat61 : cl61.slots[((own_r 2 p0)).toNatClampNeg]? = some (.int (own_at vO (own_r 2 p0))) := own_atv H61 G61 hin61
          obtain ⟨cl62, Ar62, qq62, S62, N62_, H62, G62⟩ := id V44
          have hin62 : ¬ ((((((p1 + (-1 : Int32)) + (-1 : Int32)) + (-1 : Int32)) + (-1 : Int32)) + (-1 : Int32)) < 0 ∨ cl62.slots.size ≤ ((((((p1 + (-1 : Int32)) + (-1 : Int32)) + (-1 : Int32)) + (-1 : Int32)) + (-1 : Int32))).toNatClampNeg) := inb_of S62 (own_gib gi44 (Nat.lt_trans (Nat.lt_of_succ_le (Nat.le_of_ble_eq_true rfl)) (own_nL2 hv hc25_48)))
          obtain ⟨T63, h63, X63, e63, W63, st63⟩ := stB X59 hx hZ e59 Ar62 (j := (((((p1 + (-1 : Int32)) + (-1 : Int32)) + (-1 : Int32)) + (-1 : Int32)) + (-1 : Int32))) hin62 (g := (mkF m 55 #[iv ((own_iq 2 p0) / (100 : Int32)), iv p1, rv u2, iv ((own_iq 2 p0) / (100 : Int32)), iv (own_r 2 p0), iv (((((p1 + (-1 : Int32)) + (-1 : Int32)) + (-1 : Int32)) + (-1 : Int32)) + (-1 : Int32)), iv (0 : Int32)] [(.int (own_at vO (own_r 2 p0))), (.int (((((p1 + (-1 : Int32)) + (-1 : Int32)) + (-1 : Int32)) + (-1 : Int32)) + (-1 : Int32))), (.ref u2)])) rfl rfl (oD hby D21 32 rfl)
          obtain ⟨vx63, V63, gi63⟩ := own_gst (t := 4) V44 W63 gi44 (Nat.lt_trans (Nat.lt_of_succ_le (Nat.le_of_ble_eq_true rfl)) (own_nL2 hv hc25_48)) (own_one 2 hv hO)
          have N64 := Fr.snoc X63 N45 g_u2
          have K65 : Keep h0 h63 [u2] := K46.wr W63 (Or.inl (List.mem_of_getElem? (i := 0) rfl))
          have f66 := ((f39.wr W44).wr W63)
          obtain ⟨T67, X67, e67, st67⟩ := getS2 X63 hx hZ hown (host := "") (Or.inl (oG hw 248 rfl)) Via.refl e63 f66 (g := (mkF m 62 #[iv ((own_iq 2 p0) / (100 : Int32)), iv p1, rv u2, iv ((own_iq 2 p0) / (100 : Int32)), iv (own_r 2 p0), iv ((((((p1 + (-1 : Int32)) + (-1 : Int32)) + (-1 : Int32)) + (-1 : Int32)) + (-1 : Int32)) + (-1 : Int32)), iv (0 : Int32)] [(.int ((((((p1 + (-1 : Int32)) + (-1 : Int32)) + (-1 : Int32)) + (-1 : Int32)) + (-1 : Int32)) + (-1 : Int32))), (.ref u2)])) rfl (oD hby D21 36 rfl)
          have f68 := ((f41.other W44 neB).other W63 neB)
          obtain ⟨cl69, Ar69, qq69, S69, N69_, H69, G69⟩ := id f68
          have hin69 : ¬ ((own_r 2 p0) < 0 ∨ cl69.slots.size ≤ ((own_r 2 p0)).toNatClampNeg) := inb_of S69 (own_rb 2 hv)
          have hat69 : cl69.slots[((own_r 2 p0)).toNatClampNeg]? = some (.int (own_at vT (own_r 2 p0))) := own_atv H69 G69 hin69
          obtain ⟨cl70, Ar70, qq70, S70, N70_, H70, G70⟩ := id V63
          have hin70 : ¬ (((((((p1 + (-1 : Int32)) + (-1 : Int32)) + (-1 : Int32)) + (-1 : Int32)) + (-1 : Int32)) + (-1 : Int32)) < 0 ∨ cl70.slots.size ≤ (((((((p1 + (-1 : Int32)) + (-1 : Int32)) + (-1 : Int32)) + (-1 : Int32)) + (-1 : Int32)) + (-1 : Int32))).toNatClampNeg) := inb_of S70 (own_gib gi63 (Nat.lt_trans (Nat.lt_of_succ_le (Nat.le_of_ble_eq_true rfl)) (own_nL2 hv hc25_48)))
          obtain ⟨T71, h71, X71, e71, W71, st71⟩ := stB X67 hx hZ e67 Ar70 (j := ((((((p1 + (-1 : Int32)) + (-1 : Int32)) + (-1 : Int32)) + (-1 : Int32)) + (-1 : Int32)) + (-1 : Int32))) hin70 (g := (mkF m 68 #[iv ((own_iq 2 p0) / (100 : Int32)), iv p1, rv u2, iv ((own_iq 2 p0) / (100 : Int32)), iv (own_r 2 p0), iv ((((((p1 + (-1 : Int32)) + (-1 : Int32)) + (-1 : Int32)) + (-1 : Int32)) + (-1 : Int32)) + (-1 : Int32)), iv (0 : Int32)] [(.int (own_at vT (own_r 2 p0))), (.int ((((((p1 + (-1 : Int32)) + (-1 : Int32)) + (-1 : Int32)) + (-1 : Int32)) + (-1 : Int32)) + (-1 : Int32))), (.ref u2)])) rfl rfl (oD hby D21 39 rfl)
          obtain ⟨vx71, V71, gi71⟩ := own_gst (t := 5) V63 W71 gi63 (Nat.lt_trans (Nat.lt_of_succ_le (Nat.le_of_ble_eq_true rfl)) (own_nL2 hv hc25_48)) (own_ten 2 hv hT)
          have N72 := Fr.snoc X71 N64 g_u2
          have K73 : Keep h0 h71 [u2] := K65.wr W71 (Or.inl (List.mem_of_getElem? (i := 0) rfl))
          have pre74 : own_V p e below _ T71 (mkF m 22 #[iv ((own_iq 2 p0) / (100 : Int32)), iv p1, rv u2, iv ((own_iq 2 p0) / (100 : Int32)), iv (own_r 2 p0), iv ((((((p1 + (-1 : Int32)) + (-1 : Int32)) + (-1 : Int32)) + (-1 : Int32)) + (-1 : Int32)) + (-1 : Int32)), iv (0 : Int32)] []) := fun t kt => pre57 t (by
           refine XS.iloadN X44.here hx rfl (oD hby D21 24 rfl) rfl ?_
           refine XS.istoreN X44.here hx rfl (oD hby D21 25 rfl) rfl rfl ?_
           refine XS.aloadN X44.here hx rfl (oD hby D21 26 rfl) rfl rfl ?_
           refine XS.iinc X44.here hx rfl (oD hby D21 27 rfl) rfl rfl ?_
           refine XS.iload X44.here hx rfl (oD hby D21 28 rfl) rfl ?_
           refine st59 _ ?_
           refine XS.iload X59.here hx rfl (oD hby D21 30 rfl) rfl ?_
           refine X59.baloadBytes hx (j := (own_r 2 p0)) (v := (.int (own_at vO (own_r 2 p0)))) (by rw [e59]; exact Ar61.1) (State.isArrayOf_alike hZ.alike Ar61.2.1) Ar61.2.2 hin61 hat61 (g := (mkF m 54 #[iv ((own_iq 2 p0) / (100 : Int32)), iv p1, rv u2, iv ((own_iq 2 p0) / (100 : Int32)), iv (own_r 2 p0), iv (((((p1 + (-1 : Int32)) + (-1 : Int32)) + (-1 : Int32)) + (-1 : Int32)) + (-1 : Int32)), iv (0 : Int32)] [(.int (own_r 2 p0)), (.ref dO), (.int (((((p1 + (-1 : Int32)) + (-1 : Int32)) + (-1 : Int32)) + (-1 : Int32)) + (-1 : Int32))), (.ref u2)])) rfl rfl (oD hby D21 31 rfl) _ ?_
           show Steps _ _ _ (T59.setTop (mkF m 55 #[iv ((own_iq 2 p0) / (100 : Int32)), iv p1, rv u2, iv ((own_iq 2 p0) / (100 : Int32)), iv (own_r 2 p0), iv (((((p1 + (-1 : Int32)) + (-1 : Int32)) + (-1 : Int32)) + (-1 : Int32)) + (-1 : Int32)), iv (0 : Int32)] [(.int (own_at vO (own_r 2 p0))), (.int (((((p1 + (-1 : Int32)) + (-1 : Int32)) + (-1 : Int32)) + (-1 : Int32)) + (-1 : Int32))), (.ref u2)])) _
           refine st63 _ ?_
           refine XS.aloadN X63.here hx rfl (oD hby D21 33 rfl) rfl rfl ?_
           refine XS.iinc X63.here hx rfl (oD hby D21 34 rfl) rfl rfl ?_
           refine XS.iload X63.here hx rfl (oD hby D21 35 rfl) rfl ?_
           refine st67 _ ?_
           refine XS.iload X67.here hx rfl (oD hby D21 37 rfl) rfl ?_
           refine X67.baloadBytes hx (j := (own_r 2 p0)) (v := (.int (own_at vT (own_r 2 p0)))) (by rw [e67]; exact Ar69.1) (State.isArrayOf_alike hZ.alike Ar69.2.1) Ar69.2.2 hin69 hat69 (g := (mkF m 67 #[iv ((own_iq 2 p0) / (100 : Int32)), iv p1, rv u2, iv ((own_iq 2 p0) / (100 : Int32)), iv (own_r 2 p0), iv ((((((p1 + (-1 : Int32)) + (-1 : Int32)) + (-1 : Int32)) + (-1 : Int32)) + (-1 : Int32)) + (-1 : Int32)), iv (0 : Int32)] [(.int (own_r 2 p0)), (.ref dT), (.int ((((((p1 + (-1 : Int32)) + (-1 : Int32)) + (-1 : Int32)) + (-1 : Int32)) + (-1 : Int32)) + (-1 : Int32))), (.ref u2)])) rfl rfl (oD hby D21 38 rfl) _ ?_
           refine st71 _ ?_
           refine XS.goto X71.here hx rfl (pc0 := 69) (pc' := 22) rfl (oD hby D21 40 rfl) (by decide) (by decide) ?_
           exact kt)
          rw [(rfl : ((own_iq 2 p0) / (100 : Int32)) = own_iq 3 p0)] at pre74
          have pre76 : own_V p e below _ T71 (mkF m 25 #[iv (own_iq 3 p0), iv p1, rv u2, iv (own_iq 3 p0), iv (own_r 2 p0), iv ((((((p1 + (-1 : Int32)) + (-1 : Int32)) + (-1 : Int32)) + (-1 : Int32)) + (-1 : Int32)) + (-1 : Int32)), iv (0 : Int32)] [(.int (-100 : Int32)), (.int (own_iq 3 p0))]) := fun t kt => pre74 t (by
           refine XS.iloadN X71.here hx rfl (oD hby D21 11 rfl) rfl ?_
           refine XS.bipush X71.here hx rfl (oD hby D21 12 rfl) ?_
           exact kt)
          by_cases hc25_75 : (-100 : Int32) < (own_iq 3 p0)
          · have pre77 : own_V p e below _ T71 (mkF m 72 #[iv (own_iq 3 p0), iv p1, rv u2, iv (own_iq 3 p0), iv (own_r 2 p0), iv ((((((p1 + (-1 : Int32)) + (-1 : Int32)) + (-1 : Int32)) + (-1 : Int32)) + (-1 : Int32)) + (-1 : Int32)), iv (0 : Int32)] []) := fun t kt => pre76 t (by
             refine XS.icmpYes X71.here hx rfl (pc0 := 25) (pc' := 72) rfl (oD hby D21 13 rfl) rfl (tlt hc25_75).2.2.1 (by decide) (by decide) ?_
             exact kt)
            have f78 := (Nat.le_trans (Nat.le_trans (Nat.le_trans (Nat.le_trans (Nat.le_trans (Nat.le_trans Z0 (Keep.of_wr W9).1) (Keep.of_wr W17).1) (Keep.of_wr W36).1) (Keep.of_wr W44).1) (Keep.of_wr W63).1) (Keep.of_wr W71).1)
            have f79 := ((((((P_E_u2.wr W9).wr W17).wr W36).wr W44).wr W63).wr W71)
            have f80 := ((f58.wr W63).wr W71)
            have f81 := (f66.wr W71)
            have f82 := ((f60.other W63 neA).other W71 neA)
            have f83 := (f68.other W71 neB)
            exact ⟨T71, _, (own_iq 3 p0), (iv (own_iq 3 p0)), (iv (own_r 2 p0)), ((((((p1 + (-1 : Int32)) + (-1 : Int32)) + (-1 : Int32)) + (-1 : Int32)) + (-1 : Int32)) + (-1 : Int32)), ((((((p1 + (-1 : Int32)) + (-1 : Int32)) + (-1 : Int32)) + (-1 : Int32)) + (-1 : Int32)) + (-1 : Int32)), (own_iq 3 p0), vx71, X71.more (by decide) (by decide), N72, (by rw [e71]; exact K73), (by rw [e71]; exact f78), (by rw [e71]; exact f79), (by rw [e71]; exact f80), (by rw [e71]; exact f81), (by rw [e71]; exact f82), (by rw [e71]; exact f83), (by rw [e71]; exact V71), ⟨3, rfl, gi71, hc25_75, (own_nL2 hv hc25_48), fun q => own_nF3 hv hc25_75 q, fun q => own_nE3 hv hc25_48 q⟩, rfl, rfl, pre77⟩
          · have pre84 : own_V p e below _ T71 (mkF m 41 #[iv (own_iq 3 p0), iv p1, rv u2, iv ((own_iq 3 p0) / (100 : Int32)), iv ((((own_iq 3 p0) / (100 : Int32)) * (100 : Int32)) - (own_iq 3 p0)), iv ((((((p1 + (-1 : Int32)) + (-1 : Int32)) + (-1 : Int32)) + (-1 : Int32)) + (-1 : Int32)) + (-1 : Int32)), iv (0 : Int32)] []) := fun t kt => pre76 t (by
             refine XS.icmpNo X71.here hx rfl (oD hby D21 13 rfl) rfl (flt hc25_75).2.2.1 ?_
             refine XS.iloadN X71.here hx rfl (oD hby D21 14 rfl) rfl ?_
             refine XS.bipush X71.here hx rfl (oD hby D21 15 rfl) ?_
             refine XS.idiv X71.here hx rfl (oD hby D21 16 rfl) rfl (by decide : ¬ ((100 : Int32) = (0 : Int32))) ?_
             refine XS.istoreN X71.here hx rfl (oD hby D21 17 rfl) rfl rfl ?_
             refine XS.iloadN X71.here hx rfl (oD hby D21 18 rfl) rfl ?_
             refine XS.bipush X71.here hx rfl (oD hby D21 19 rfl) ?_
             refine XS.imul X71.here hx rfl (oD hby D21 20 rfl) rfl ?_
             refine XS.iloadN X71.here hx rfl (oD hby D21 21 rfl) rfl ?_
             refine XS.isub X71.here hx rfl (oD hby D21 22 rfl) rfl ?_
             refine XS.istore X71.here hx rfl (oD hby D21 23 rfl) rfl rfl ?_
             exact kt)
            rw [(rfl : ((((own_iq 3 p0) / (100 : Int32)) * (100 : Int32)) - (own_iq 3 p0)) = own_r 3 p0)] at pre84
            have f85 := ((f58.wr W63).wr W71)
            obtain ⟨T86, X86, e86, st86⟩ := getS2 X71 hx hZ hown (host := "") (Or.inl (oG hw 144 rfl)) Via.refl e71 f85 (g := (mkF m 49 #[iv ((own_iq 3 p0) / (100 : Int32)), iv p1, rv u2, iv ((own_iq 3 p0) / (100 : Int32)), iv (own_r 3 p0), iv (((((((p1 + (-1 : Int32)) + (-1 : Int32)) + (-1 : Int32)) + (-1 : Int32)) + (-1 : Int32)) + (-1 : Int32)) + (-1 : Int32)), iv (0 : Int32)] [(.int (((((((p1 + (-1 : Int32)) + (-1 : Int32)) + (-1 : Int32)) + (-1 : Int32)) + (-1 : Int32)) + (-1 : Int32)) + (-1 : Int32))), (.ref u2)])) rfl (oD hby D21 29 rfl)
            have f87 := ((f60.other W63 neA).other W71 neA)
            obtain ⟨cl88, Ar88, qq88, S88, N88_, H88, G88⟩ := id f87
            have hin88 : ¬ ((own_r 3 p0) < 0 ∨ cl88.slots.size ≤ ((own_r 3 p0)).toNatClampNeg) := inb_of S88 (own_rb 3 hv)
            have hat88 : cl88.slots[((own_r 3 p0)).toNatClampNeg]? = some (.int (own_at vO (own_r 3 p0))) := own_atv H88 G88 hin88
            obtain ⟨cl89, Ar89, qq89, S89, N89_, H89, G89⟩ := id V71
            have hin89 : ¬ ((((((((p1 + (-1 : Int32)) + (-1 : Int32)) + (-1 : Int32)) + (-1 : Int32)) + (-1 : Int32)) + (-1 : Int32)) + (-1 : Int32)) < 0 ∨ cl89.slots.size ≤ ((((((((p1 + (-1 : Int32)) + (-1 : Int32)) + (-1 : Int32)) + (-1 : Int32)) + (-1 : Int32)) + (-1 : Int32)) + (-1 : Int32))).toNatClampNeg) := inb_of S89 (own_gib gi71 (Nat.lt_trans (Nat.lt_of_succ_le (Nat.le_of_ble_eq_true rfl)) (own_nL3 hv hc25_75)))
            obtain ⟨T90, h90, X90, e90, W90, st90⟩ := stB X86 hx hZ e86 Ar89 (j := (((((((p1 + (-1 : Int32)) + (-1 : Int32)) + (-1 : Int32)) + (-1 : Int32)) + (-1 : Int32)) + (-1 : Int32)) + (-1 : Int32))) hin89 (g := (mkF m 55 #[iv ((own_iq 3 p0) / (100 : Int32)), iv p1, rv u2, iv ((own_iq 3 p0) / (100 : Int32)), iv (own_r 3 p0), iv (((((((p1 + (-1 : Int32)) + (-1 : Int32)) + (-1 : Int32)) + (-1 : Int32)) + (-1 : Int32)) + (-1 : Int32)) + (-1 : Int32)), iv (0 : Int32)] [(.int (own_at vO (own_r 3 p0))), (.int (((((((p1 + (-1 : Int32)) + (-1 : Int32)) + (-1 : Int32)) + (-1 : Int32)) + (-1 : Int32)) + (-1 : Int32)) + (-1 : Int32))), (.ref u2)])) rfl rfl (oD hby D21 32 rfl)
            obtain ⟨vx90, V90, gi90⟩ := own_gst (t := 6) V71 W90 gi71 (Nat.lt_trans (Nat.lt_of_succ_le (Nat.le_of_ble_eq_true rfl)) (own_nL3 hv hc25_75)) (own_one 3 hv hO)
            have N91 := Fr.snoc X90 N72 g_u2
            have K92 : Keep h0 h90 [u2] := K73.wr W90 (Or.inl (List.mem_of_getElem? (i := 0) rfl))
            have f93 := ((f66.wr W71).wr W90)
            obtain ⟨T94, X94, e94, st94⟩ := getS2 X90 hx hZ hown (host := "") (Or.inl (oG hw 248 rfl)) Via.refl e90 f93 (g := (mkF m 62 #[iv ((own_iq 3 p0) / (100 : Int32)), iv p1, rv u2, iv ((own_iq 3 p0) / (100 : Int32)), iv (own_r 3 p0), iv ((((((((p1 + (-1 : Int32)) + (-1 : Int32)) + (-1 : Int32)) + (-1 : Int32)) + (-1 : Int32)) + (-1 : Int32)) + (-1 : Int32)) + (-1 : Int32)), iv (0 : Int32)] [(.int ((((((((p1 + (-1 : Int32)) + (-1 : Int32)) + (-1 : Int32)) + (-1 : Int32)) + (-1 : Int32)) + (-1 : Int32)) + (-1 : Int32)) + (-1 : Int32))), (.ref u2)])) rfl (oD hby D21 36 rfl)
            have f95 := ((f68.other W71 neB).other W90 neB)
            obtain ⟨cl96, Ar96, qq96, S96, N96_, H96, G96⟩ := id f95
            have hin96 : ¬ ((own_r 3 p0) < 0 ∨ cl96.slots.size ≤ ((own_r 3 p0)).toNatClampNeg) := inb_of S96 (own_rb 3 hv)
            have hat96 : cl96.slots[((own_r 3 p0)).toNatClampNeg]? = some (.int (own_at vT (own_r 3 p0))) := own_atv H96 G96 hin96
            obtain ⟨cl97, Ar97, qq97, S97, N97_, H97, G97⟩ := id V90
            have hin97 : ¬ (((((((((p1 + (-1 : Int32)) + (-1 : Int32)) + (-1 : Int32)) + (-1 : Int32)) + (-1 : Int32)) + (-1 : Int32)) + (-1 : Int32)) + (-1 : Int32)) < 0 ∨ cl97.slots.size ≤ (((((((((p1 + (-1 : Int32)) + (-1 : Int32)) + (-1 : Int32)) + (-1 : Int32)) + (-1 : Int32)) + (-1 : Int32)) + (-1 : Int32)) + (-1 : Int32))).toNatClampNeg) := inb_of S97 (own_gib gi90 (Nat.lt_trans (Nat.lt_of_succ_le (Nat.le_of_ble_eq_true rfl)) (own_nL3 hv hc25_75)))
            obtain ⟨T98, h98, X98, e98, W98, st98⟩ := stB X94 hx hZ e94 Ar97 (j := ((((((((p1 + (-1 : Int32)) + (-1 : Int32)) + (-1 : Int32)) + (-1 : Int32)) + (-1 : Int32)) + (-1 : Int32)) + (-1 : Int32)) + (-1 : Int32))) hin97 (g := (mkF m 68 #[iv ((own_iq 3 p0) / (100 : Int32)), iv p1, rv u2, iv ((own_iq 3 p0) / (100 : Int32)), iv (own_r 3 p0), iv ((((((((p1 + (-1 : Int32)) + (-1 : Int32)) + (-1 : Int32)) + (-1 : Int32)) + (-1 : Int32)) + (-1 : Int32)) + (-1 : Int32)) + (-1 : Int32)), iv (0 : Int32)] [(.int (own_at vT (own_r 3 p0))), (.int ((((((((p1 + (-1 : Int32)) + (-1 : Int32)) + (-1 : Int32)) + (-1 : Int32)) + (-1 : Int32)) + (-1 : Int32)) + (-1 : Int32)) + (-1 : Int32))), (.ref u2)])) rfl rfl (oD hby D21 39 rfl)
            obtain ⟨vx98, V98, gi98⟩ := own_gst (t := 7) V90 W98 gi90 (Nat.lt_trans (Nat.lt_of_succ_le (Nat.le_of_ble_eq_true rfl)) (own_nL3 hv hc25_75)) (own_ten 3 hv hT)
            have N99 := Fr.snoc X98 N91 g_u2
            have K100 : Keep h0 h98 [u2] := K92.wr W98 (Or.inl (List.mem_of_getElem? (i := 0) rfl))
            have pre101 : own_V p e below _ T98 (mkF m 22 #[iv ((own_iq 3 p0) / (100 : Int32)), iv p1, rv u2, iv ((own_iq 3 p0) / (100 : Int32)), iv (own_r 3 p0), iv ((((((((p1 + (-1 : Int32)) + (-1 : Int32)) + (-1 : Int32)) + (-1 : Int32)) + (-1 : Int32)) + (-1 : Int32)) + (-1 : Int32)) + (-1 : Int32)), iv (0 : Int32)] []) := fun t kt => pre84 t (by
             refine XS.iloadN X71.here hx rfl (oD hby D21 24 rfl) rfl ?_
             show Steps _ _ _ (T71.setTop (mkF m 42 #[iv (own_iq 3 p0), iv p1, rv u2, iv ((own_iq 3 p0) / (100 : Int32)), iv (own_r 3 p0), iv ((((((p1 + (-1 : Int32)) + (-1 : Int32)) + (-1 : Int32)) + (-1 : Int32)) + (-1 : Int32)) + (-1 : Int32)), iv (0 : Int32)] [(.int ((own_iq 3 p0) / (100 : Int32)))])) _
             refine XS.istoreN X71.here hx rfl (oD hby D21 25 rfl) rfl rfl ?_
             refine XS.aloadN X71.here hx rfl (oD hby D21 26 rfl) rfl rfl ?_
             refine XS.iinc X71.here hx rfl (oD hby D21 27 rfl) rfl rfl ?_
             refine XS.iload X71.here hx rfl (oD hby D21 28 rfl) rfl ?_
             refine st86 _ ?_
             refine XS.iload X86.here hx rfl (oD hby D21 30 rfl) rfl ?_
             refine X86.baloadBytes hx (j := (own_r 3 p0)) (v := (.int (own_at vO (own_r 3 p0)))) (by rw [e86]; exact Ar88.1) (State.isArrayOf_alike hZ.alike Ar88.2.1) Ar88.2.2 hin88 hat88 (g := (mkF m 54 #[iv ((own_iq 3 p0) / (100 : Int32)), iv p1, rv u2, iv ((own_iq 3 p0) / (100 : Int32)), iv (own_r 3 p0), iv (((((((p1 + (-1 : Int32)) + (-1 : Int32)) + (-1 : Int32)) + (-1 : Int32)) + (-1 : Int32)) + (-1 : Int32)) + (-1 : Int32)), iv (0 : Int32)] [(.int (own_r 3 p0)), (.ref dO), (.int (((((((p1 + (-1 : Int32)) + (-1 : Int32)) + (-1 : Int32)) + (-1 : Int32)) + (-1 : Int32)) + (-1 : Int32)) + (-1 : Int32))), (.ref u2)])) rfl rfl (oD hby D21 31 rfl) _ ?_
             refine st90 _ ?_
             refine XS.aloadN X90.here hx rfl (oD hby D21 33 rfl) rfl rfl ?_
             refine XS.iinc X90.here hx rfl (oD hby D21 34 rfl) rfl rfl ?_
             refine XS.iload X90.here hx rfl (oD hby D21 35 rfl) rfl ?_
             refine st94 _ ?_
             refine XS.iload X94.here hx rfl (oD hby D21 37 rfl) rfl ?_
             refine X94.baloadBytes hx (j := (own_r 3 p0)) (v := (.int (own_at vT (own_r 3 p0)))) (by rw [e94]; exact Ar96.1) (State.isArrayOf_alike hZ.alike Ar96.2.1) Ar96.2.2 hin96 hat96 (g := (mkF m 67 #[iv ((own_iq 3 p0) / (100 : Int32)), iv p1, rv u2, iv ((own_iq 3 p0) / (100 : Int32)), iv (own_r 3 p0), iv ((((((((p1 + (-1 : Int32)) + (-1 : Int32)) + (-1 : Int32)) + (-1 : Int32)) + (-1 : Int32)) + (-1 : Int32)) + (-1 : Int32)) + (-1 : Int32)), iv (0 : Int32)] [(.int (own_r 3 p0)), (.ref dT), (.int ((((((((p1 + (-1 : Int32)) + (-1 : Int32)) + (-1 : Int32)) + (-1 : Int32)) + (-1 : Int32)) + (-1 : Int32)) + (-1 : Int32)) + (-1 : Int32))), (.ref u2)])) rfl rfl (oD hby D21 38 rfl) _ ?_
             refine st98 _ ?_
             refine XS.goto X98.here hx rfl (pc0 := 69) (pc' := 22) rfl (oD hby D21 40 rfl) (by decide) (by decide) ?_
             exact kt)
            rw [(rfl : ((own_iq 3 p0) / (100 : Int32)) = own_iq 4 p0)] at pre101
            have pre102 : own_V p e below _ T98 (mkF m 72 #[iv (own_iq 4 p0), iv p1, rv u2, iv (own_iq 4 p0), iv (own_r 3 p0), iv ((((((((p1 + (-1 : Int32)) + (-1 : Int32)) + (-1 : Int32)) + (-1 : Int32)) + (-1 : Int32)) + (-1 : Int32)) + (-1 : Int32)) + (-1 : Int32)), iv (0 : Int32)] []) := fun t kt => pre101 t (by
             refine XS.iloadN X98.here hx rfl (oD hby D21 11 rfl) rfl ?_
             refine XS.bipush X98.here hx rfl (oD hby D21 12 rfl) ?_
             refine XS.icmpYes X98.here hx rfl (pc0 := 25) (pc' := 72) rfl (oD hby D21 13 rfl) rfl (tlt (own_nX hv)).2.2.1 (by decide) (by decide) ?_
             exact kt)
            have f103 := (Nat.le_trans (Nat.le_trans (Nat.le_trans (Nat.le_trans (Nat.le_trans (Nat.le_trans (Nat.le_trans (Nat.le_trans Z0 (Keep.of_wr W9).1) (Keep.of_wr W17).1) (Keep.of_wr W36).1) (Keep.of_wr W44).1) (Keep.of_wr W63).1) (Keep.of_wr W71).1) (Keep.of_wr W90).1) (Keep.of_wr W98).1)
            have f104 := ((((((((P_E_u2.wr W9).wr W17).wr W36).wr W44).wr W63).wr W71).wr W90).wr W98)
            have f105 := ((f85.wr W90).wr W98)
            have f106 := (f93.wr W98)
            have f107 := ((f87.other W90 neA).other W98 neA)
            have f108 := (f95.other W98 neB)
            exact ⟨T98, _, (own_iq 4 p0), (iv (own_iq 4 p0)), (iv (own_r 3 p0)), ((((((((p1 + (-1 : Int32)) + (-1 : Int32)) + (-1 : Int32)) + (-1 : Int32)) + (-1 : Int32)) + (-1 : Int32)) + (-1 : Int32)) + (-1 : Int32)), ((((((((p1 + (-1 : Int32)) + (-1 : Int32)) + (-1 : Int32)) + (-1 : Int32)) + (-1 : Int32)) + (-1 : Int32)) + (-1 : Int32)) + (-1 : Int32)), (own_iq 4 p0), vx98, X98.more (by decide) (by decide), N99, (by rw [e98]; exact K100), (by rw [e98]; exact f103), (by rw [e98]; exact f104), (by rw [e98]; exact f105), (by rw [e98]; exact f106), (by rw [e98]; exact f107), (by rw [e98]; exact f108), (by rw [e98]; exact V98), ⟨4, rfl, gi98, (own_nX hv), (own_nL3 hv hc25_75), fun q => own_nF4 hv (own_nX hv) q, fun q => own_nE4 hv hc25_75 q⟩, rfl, rfl, pre102⟩
  obtain ⟨T109, L109, x109_L0, y3, y4, x109_L5, jx, ix, bx, X109, N109, K109, f110, f111, f112, f113, f114, f115, f116, hgx, mq109_L0, mq109_L5, pre109⟩ := Mg109
  rw [mq109_L0] at pre109
  rw [mq109_L5] at pre109
  obtain ⟨mm, eix, gi0, hlo, hlt, hF, hE⟩ := hgx
  rw [eix] at pre109
  obtain ⟨T117, X117, e117, st117⟩ := getS2 X109 hx hZ hown (host := "") (Or.inl (oG hw 144 rfl)) Via.refl rfl f112 (g := (mkF m 78 #[iv (own_iq mm p0), iv p1, rv u2, y3, y4, iv (jx + (-1 : Int32)), iv (0 : Int32)] [(.int (jx + (-1 : Int32))), (.ref u2)])) rfl (oD hby D21 44 rfl)
  obtain ⟨cl118, Ar118, qq118, S118, N118_, H118, G118⟩ := id f114
  have hin118 : ¬ ((-(own_iq mm p0)) < 0 ∨ cl118.slots.size ≤ ((-(own_iq mm p0))).toNatClampNeg) := inb_of S118 (own_eb mm hv hlo)
  have hat118 : cl118.slots[((-(own_iq mm p0))).toNatClampNeg]? = some (.int (own_at vO (-(own_iq mm p0)))) := own_atv H118 G118 hin118
  obtain ⟨cl119, Ar119, qq119, S119, N119_, H119, G119⟩ := id f116
  have hin119 : ¬ ((jx + (-1 : Int32)) < 0 ∨ cl119.slots.size ≤ ((jx + (-1 : Int32))).toNatClampNeg) := inb_of S119 (own_gib gi0 hlt)
  obtain ⟨T120, h120, X120, e120, W120, st120⟩ := stB X117 hx hZ e117 Ar119 (j := (jx + (-1 : Int32))) hin119 (g := (mkF m 84 #[iv (own_iq mm p0), iv p1, rv u2, y3, y4, iv (jx + (-1 : Int32)), iv (0 : Int32)] [(.int (own_at vO (-(own_iq mm p0)))), (.int (jx + (-1 : Int32))), (.ref u2)])) rfl rfl (oD hby D21 48 rfl)
  obtain ⟨vx120, V120, gi120⟩ := own_gst (t := 2 * mm) f116 W120 gi0 hlt (own_oneE mm hv hlo hO)
  have N121 := Fr.snoc X120 N109 g_u2
  have K122 : Keep h0 h120 [u2] := K109.wr W120 (Or.inl (List.mem_of_getElem? (i := 0) rfl))
  have pre124 : own_V p e below _ T120 (mkF m 88 #[iv (own_iq mm p0), iv p1, rv u2, y3, y4, iv (jx + (-1 : Int32)), iv (0 : Int32)] [(.int (-9 : Int32)), (.int (own_iq mm p0))]) := fun t kt => pre109 t (by
   refine XS.aloadN X109.here hx rfl (oD hby D21 41 rfl) rfl rfl ?_
   refine XS.iinc X109.here hx rfl (oD hby D21 42 rfl) rfl rfl ?_
   refine XS.iload X109.here hx rfl (oD hby D21 43 rfl) rfl ?_
   refine st117 _ ?_
   refine XS.iloadN X117.here hx rfl (oD hby D21 45 rfl) rfl ?_
   show Steps _ _ _ (T117.setTop (mkF m 82 #[iv (own_iq mm p0), iv p1, rv u2, y3, y4, iv (jx + (-1 : Int32)), iv (0 : Int32)] [(.int (own_iq mm p0)), (.ref dO), (.int (jx + (-1 : Int32))), (.ref u2)])) _
   refine XS.ineg X117.here hx rfl (oD hby D21 46 rfl) rfl ?_
   refine X117.baloadBytes hx (j := (-(own_iq mm p0))) (v := (.int (own_at vO (-(own_iq mm p0))))) (by rw [e117]; exact Ar118.1) (State.isArrayOf_alike hZ.alike Ar118.2.1) Ar118.2.2 hin118 hat118 (g := (mkF m 83 #[iv (own_iq mm p0), iv p1, rv u2, y3, y4, iv (jx + (-1 : Int32)), iv (0 : Int32)] [(.int (-(own_iq mm p0))), (.ref dO), (.int (jx + (-1 : Int32))), (.ref u2)])) rfl rfl (oD hby D21 47 rfl) _ ?_
   refine st120 _ ?_
   refine XS.iloadN X120.here hx rfl (oD hby D21 49 rfl) rfl ?_
   refine XS.bipush X120.here hx rfl (oD hby D21 50 rfl) ?_
   exact kt)
  by_cases hc88_123 : (own_iq mm p0) < (-9 : Int32)
  · have f125 := (f113.wr W120)
    obtain ⟨T126, X126, e126, st126⟩ := getS2 X120 hx hZ hown (host := "") (Or.inl (oG hw 248 rfl)) Via.refl e120 f125 (g := (mkF m 97 #[iv (own_iq mm p0), iv p1, rv u2, y3, y4, iv ((jx + (-1 : Int32)) + (-1 : Int32)), iv (0 : Int32)] [(.int ((jx + (-1 : Int32)) + (-1 : Int32))), (.ref u2)])) rfl (oD hby D21 55 rfl)
    have f127 := (f115.other W120 neB)
    obtain ⟨cl128, Ar128, qq128, S128, N128_, H128, G128⟩ := id f127
    have hin128 : ¬ ((-(own_iq mm p0)) < 0 ∨ cl128.slots.size ≤ ((-(own_iq mm p0))).toNatClampNeg) := inb_of S128 (own_eb mm hv hlo)
    have hat128 : cl128.slots[((-(own_iq mm p0))).toNatClampNeg]? = some (.int (own_at vT (-(own_iq mm p0)))) := own_atv H128 G128 hin128
    obtain ⟨cl129, Ar129, qq129, S129, N129_, H129, G129⟩ := id V120
    have hin129 : ¬ (((jx + (-1 : Int32)) + (-1 : Int32)) < 0 ∨ cl129.slots.size ≤ (((jx + (-1 : Int32)) + (-1 : Int32))).toNatClampNeg) := inb_of S129 (own_gib gi120 (by rw [hF hc88_123]; exact Nat.lt_succ_self _))
    obtain ⟨T130, h130, X130, e130, W130, st130⟩ := stB X126 hx hZ e126 Ar129 (j := ((jx + (-1 : Int32)) + (-1 : Int32))) hin129 (g := (mkF m 103 #[iv (own_iq mm p0), iv p1, rv u2, y3, y4, iv ((jx + (-1 : Int32)) + (-1 : Int32)), iv (0 : Int32)] [(.int (own_at vT (-(own_iq mm p0)))), (.int ((jx + (-1 : Int32)) + (-1 : Int32))), (.ref u2)])) rfl rfl (oD hby D21 59 rfl)
    obtain ⟨vx130, V130, gi130⟩ := own_gst (t := 2 * mm + 1) V120 W130 gi120 (by rw [hF hc88_123]; exact Nat.lt_succ_self _) (own_tenE mm hv hlo hT)
    have N131 := Fr.snoc X130 N121 g_u2
    have K132 : Keep h0 h130 [u2] := K122.wr W130 (Or.inl (List.mem_of_getElem? (i := 0) rfl))
    obtain ⟨fs, hr, hrun, hended, hW, hsame⟩ := X130.leave (v := some (.int ((jx + (-1 : Int32)) + (-1 : Int32)))) (fun h => by rw [Bd.returns] at h; cases h)
    refine ⟨_, _, pre124 _ ?_, hrun, hended, _, _, rfl, ?_, ⟨_, rfl⟩, hW, hsame.mono (by decide) (by decide)⟩
    · refine XS.icmpNo X120.here hx rfl (oD hby D21 51 rfl) rfl (tlt hc88_123).2.1 ?_
      refine XS.aloadN X120.here hx rfl (oD hby D21 52 rfl) rfl rfl ?_
      refine XS.iinc X120.here hx rfl (oD hby D21 53 rfl) rfl rfl ?_
      refine XS.iload X120.here hx rfl (oD hby D21 54 rfl) rfl ?_
      refine st126 _ ?_
      refine XS.iloadN X126.here hx rfl (oD hby D21 56 rfl) rfl ?_
      refine XS.ineg X126.here hx rfl (oD hby D21 57 rfl) rfl ?_
      refine X126.baloadBytes hx (j := (-(own_iq mm p0))) (v := (.int (own_at vT (-(own_iq mm p0))))) (by rw [e126]; exact Ar128.1) (State.isArrayOf_alike hZ.alike Ar128.2.1) Ar128.2.2 hin128 hat128 (g := (mkF m 102 #[iv (own_iq mm p0), iv p1, rv u2, y3, y4, iv ((jx + (-1 : Int32)) + (-1 : Int32)), iv (0 : Int32)] [(.int (-(own_iq mm p0))), (.ref dT), (.int ((jx + (-1 : Int32)) + (-1 : Int32))), (.ref u2)])) rfl rfl (oD hby D21 58 rfl) _ ?_
      refine st130 _ ?_
      refine XS.iload X130.here hx rfl (oD hby D21 60 rfl) rfl ?_
      refine XS.ifYes X130.here hx rfl (pc0 := 106) (pc' := 118) rfl (oD hby D21 61 rfl) rfl ((if0 _ _).trans (teq (by decide : (0 : Int32) = (0 : Int32))).1) (by decide) (by decide) ?_
      refine XS.iload X130.here hx rfl (oD hby D21 62 rfl) rfl ?_
      show Steps _ _ _ (T130.setTop (mkF m 120 #[iv (own_iq mm p0), iv p1, rv u2, y3, y4, iv ((jx + (-1 : Int32)) + (-1 : Int32)), iv (0 : Int32)] [(.int ((jx + (-1 : Int32)) + (-1 : Int32)))])) _
      exact retI X130 hx Bd.returns (oD hby D21 63 rfl) hr
    · show Q_rmGC Z p0 p1 u2 kb cap bs xl dO kO vO dT kT vT h0 n0 _ T130.heap _
      rw [e130]
      exact ⟨((jx + (-1 : Int32)) + (-1 : Int32)), vx130, rfl, N131, K132, V130, (own_gend gi130 (hF hc88_123))⟩
  · obtain ⟨fs, hr, hrun, hended, hW, hsame⟩ := X120.leave (v := some (.int (jx + (-1 : Int32)))) (fun h => by rw [Bd.returns] at h; cases h)
    refine ⟨_, _, pre124 _ ?_, hrun, hended, _, _, rfl, ?_, ⟨_, rfl⟩, hW, hsame.mono (by decide) (by decide)⟩
    · refine XS.icmpYes X120.here hx rfl (pc0 := 88) (pc' := 104) rfl (oD hby D21 51 rfl) rfl (flt hc88_123).2.1 (by decide) (by decide) ?_
      refine XS.iload X120.here hx rfl (oD hby D21 60 rfl) rfl ?_
      refine XS.ifYes X120.here hx rfl (pc0 := 106) (pc' := 118) rfl (oD hby D21 61 rfl) rfl ((if0 _ _).trans (teq (by decide : (0 : Int32) = (0 : Int32))).1) (by decide) (by decide) ?_
      refine XS.iload X120.here hx rfl (oD hby D21 62 rfl) rfl ?_
      show Steps _ _ _ (T120.setTop (mkF m 120 #[iv (own_iq mm p0), iv p1, rv u2, y3, y4, iv (jx + (-1 : Int32)), iv (0 : Int32)] [(.int (jx + (-1 : Int32)))])) _
      exact retI X120 hx Bd.returns (oD hby D21 63 rfl) hr
    · show Q_rmGC Z p0 p1 u2 kb cap bs xl dO kO vO dT kT vT h0 n0 _ T120.heap _
      rw [e120]
      exact ⟨(jx + (-1 : Int32)), vx120, rfl, N121, K122, V120, (own_gend gi120 (hE hc88_123))⟩

theorem ef_rmAi (m : MethodId) (x0 : Addr) (x1 : Int32) : entryFrame m #[(.ref x0), (.int x1)] 4 = mkF m 0 #[rv x0, iv x1, .unset, .unset] [] := by first | (simp [entryFrame, mkF, argsToLocals, Value.category]; done) | rfl
def Q_rmAi (Z : State) (u0 : Addr) (p1 : Int32) (bv : Addr) (kb : ClassId) (cap : Int32) (bs : List Value) (cnt : Int32) (xl : List Int32) (dO : Addr) (kO : ClassId) (vO : List Value) (dT : Addr) (kT : ClassId) (vT : List Value) (zC : Int32) (h0 : Heap) (n0 : Nat) (v : Option Value) (h : Heap) (L : List Loc) : Prop := ∃ (t2 : Jvm.Addr), ∃ (k2 : ClassId), ∃ (cap2 : Int32), ∃ (b2 : List Value), ∃ (cn2 : Int32), (v = (some (.ref u0)) ∧ Fr n0 L ∧ Keep h0 h [u0, bv] ∧ Exa Z h u0 "java/lang/StringBuilder" ∧ Fld Z h u0 "java/lang/AbstractStringBuilder" "value" "[B" (.ref t2) ∧ Fld Z h u0 "java/lang/AbstractStringBuilder" "coder" "B" (.int (0 : Int32)) ∧ Fld Z h u0 "java/lang/AbstractStringBuilder" "count" "I" (.int cn2) ∧ Exa Z h t2 "[B" ∧ Arv Z h t2 k2 .byte cap2 b2 (.int 0) ∧ (own_has b2 (xl ++ own_dl p1) ∧ own_cap cap2 b2) ∧ (own_len (xl ++ own_dl p1) cn2 ∧ own_in (xl ++ own_dl p1) cap2) ∧ ((t2 = bv ∨ h0.size ≤ t2)))
theorem rmAi (l : Launch) (Z : State) (a0 : Array Value) (hw : own_W a0 Z) (ws : List Jvm.Cond) (u0 : Addr) (p1 : Int32) (bv : Addr) (kb : ClassId) (cap : Int32) (bs : List Value) (cnt : Int32) (xl : List Int32) (dO : Addr) (kO : ClassId) (vO : List Value) (dT : Addr) (kT : ClassId) (vT : List Value) (zC : Int32) (h0 : Heap) (n0 : Nat) (Z0 : n0 ≤ h0.size) (P_E_u0 : Exa Z h0 u0 "java/lang/StringBuilder") (P_F_u0_AbstractStringBuilder_value : Fld Z h0 u0 "java/lang/AbstractStringBuilder" "value" "[B" (.ref bv)) (P_F_u0_AbstractStringBuilder_coder : Fld Z h0 u0 "java/lang/AbstractStringBuilder" "coder" "B" (.int (0 : Int32))) (P_F_u0_AbstractStringBuilder_count : Fld Z h0 u0 "java/lang/AbstractStringBuilder" "count" "I" (.int cnt)) (P_E_bv : Exa Z h0 bv "[B") (P_G_bv : Arv Z h0 bv kb .byte cap bs (.int 0)) (P_S_Integer_DigitOnes : Sta Z h0 "java/lang/Integer" "DigitOnes" "[B" (.ref dO)) (P_S_Integer_DigitTens : Sta Z h0 "java/lang/Integer" "DigitTens" "[B" (.ref dT)) (P_G_dO : Arv Z h0 dO kO .byte (100 : Int32) vO (.int 0)) (P_G_dT : Arv Z h0 dT kT .byte (100 : Int32) vT (.int 0)) (hO : own_do vO) (hT : own_dt vT) (neE : bv ≠ u0) (neA : dO ≠ u0) (neB : dT ≠ u0) (neC : dO ≠ bv) (neD : dT ≠ bv) (P_S_String_COMPACT_STRINGS : Sta Z h0 "java/lang/String" "COMPACT_STRINGS" "Z" (.int zC)) (hz : ¬ (zC = (0 : Int32))) (wi : own_in xl cap) (wl : own_len xl cnt) (w34 : xl.length + (own_dl p1).length ≤ 34) (wc : own_cap cap bs) (wh : own_has bs xl) (hv : ¬ p1 < 0) (g_u0 : n0 ≤ u0) (g_bv : n0 ≤ bv) :
    own_MF l own_y43 (Jvm.Cond.code own_y43 jdk_68_method_32_code 4 (some (.object "java/lang/AbstractStringBuilder"))) ws ({ frames := 4, cells := 1, slots := 34, locals := 62 } : Room) #[(.ref u0), (.int p1)] Z h0 (Q_rmAi Z u0 p1 bv kb cap bs cnt xl dO kO vO dT kT vT zC h0 n0) := by
  refine own_enter (n0 := n0) (plainFor_of_name pn_8) (C := "java/lang/AbstractStringBuilder") rfl (fun m => ef_rmAi m u0 p1) fun p e s m below meth c s₁ Bd hx hby hml hown hnm hZ hh X0 e0 N0 pre0 => ?_
  obtain ⟨T1, X1, e1, st1⟩ := getF X0 hx hZ hown (host := "") (Or.inl (oG hw 94 rfl)) Via.refl e0 P_F_u0_AbstractStringBuilder_count (g := (mkF m 1 #[rv u0, iv p1, .unset, .unset] [(.ref u0)])) rfl rfl (oD hby D18 1 rfl)
  obtain ⟨_, T2, L2, X2, hQ2, st2⟩ := own_cS X1 hx hown hZ (oG hw 132 rfl) (oG hw 133 rfl) (oG hw 134 rfl) (oG hw 135 rfl) (by decide) (rmSS l Z a0 hw [] p1 h0 n0 Z0 hv) (W := 1) (by decide) (by decide) (g := (mkF m 7 #[rv u0, iv p1, iv cnt, .unset] [(.int p1), (.int cnt)])) rfl (by rw [hml]; rfl) (argsL := [(.int p1)]) (rest := [(.int cnt)]) (lenOf pd10 rfl) rfl (own_ww rfl) (oD hby D18 5 rfl) e1 rfl (by decide) (by decide)
  obtain ⟨rfl, N2q, e2⟩ := hQ2
  have N2 := Fr.app N0 N2q
  have pre4 : own_V p e below _ T2 (mkF m 12 #[rv u0, iv p1, iv cnt, iv (cnt + (own_ni p1))] []) := fun t kt => pre0 t (by
   refine XS.aloadN X0.here hx rfl (oD hby D18 0 rfl) rfl rfl ?_
   refine st1 _ ?_
   refine XS.istoreN X1.here hx rfl (oD hby D18 2 rfl) rfl rfl ?_
   refine XS.iloadN X1.here hx rfl (oD hby D18 3 rfl) rfl ?_
   refine XS.iloadN X1.here hx rfl (oD hby D18 4 rfl) rfl ?_
   refine st2 _ ?_
   refine XS.iadd X2.here hx rfl (oD hby D18 6 rfl) rfl ?_
   refine XS.istoreN X2.here hx rfl (oD hby D18 7 rfl) rfl rfl ?_
   exact kt)
  by_cases hc12_3 : (0 : Int32) < ((cnt + (own_ni p1)) - cap)
  · obtain ⟨e16, h34b⟩ := own_grow wl (own_dlen p1) w34 wc hc12_3
    have G16 : Arv Z h0 bv kb .byte (16 : Int32) bs (.int 0) := by rw [← e16]; exact P_G_bv
    have g16 : (0 : Int32) < ((cnt + (own_ni p1)) - (16 : Int32)) := by rw [← e16]; exact hc12_3
    have wi16 : own_in xl (16 : Int32) := by rw [← e16]; exact wi
    obtain ⟨_, T5, L5, X5, hQ5, st5⟩ := own_cV X2 hx hown hZ (oG hw 96 rfl) (own_decl (oG hw 97 rfl) (oG hw 100 rfl)) (oG hw 99 rfl) (oG hw 97 rfl) (oG hw 65 rfl) (oG hw 100 rfl) (by decide) (rmE1 l Z a0 hw [] u0 (cnt + (own_ni p1)) bv kb bs cnt xl h0 n0 Z0 P_E_u0 P_F_u0_AbstractStringBuilder_value P_F_u0_AbstractStringBuilder_coder P_F_u0_AbstractStringBuilder_count P_E_bv G16 g16 h34b wh (own_i16 wi16) g_u0) (W := 0) (by decide) (by decide) P_E_u0 (g := (mkF m 14 #[rv u0, iv p1, iv cnt, iv (cnt + (own_ni p1))] [(.int (cnt + (own_ni p1))), (.ref u0)])) rfl (by rw [hml]; rfl) (argsL := [(.int (cnt + (own_ni p1)))]) (rest := []) (lenOf pd7 rfl) rfl (own_ww rfl) (oD hby D18 10 rfl) e2 rfl (by decide) (by decide)
    obtain ⟨t1_5, k1_5, b1_5, rfl, N5q, K5, sx5_0, f6, f7, f8, f9, f10, f11, f12⟩ := hQ5
    have ot1_5 : n0 ≤ t1_5 := Nat.le_trans Z0 sx5_0
    have zt1_5 : h0.size ≤ t1_5 := Nat.le_trans (Keep.refl h0 [u0, bv]).1 sx5_0
    have ne13 : u0 ≠ t1_5 := Nat.ne_of_lt (Nat.lt_of_lt_of_le P_E_u0.lt sx5_0)
    have ne14 : bv ≠ t1_5 := Nat.ne_of_lt (Nat.lt_of_lt_of_le P_E_bv.lt sx5_0)
    have ne15 : dO ≠ t1_5 := Nat.ne_of_lt (Nat.lt_of_lt_of_le P_G_dO.lt sx5_0)
    have ne16 : dT ≠ t1_5 := Nat.ne_of_lt (Nat.lt_of_lt_of_le P_G_dT.lt sx5_0)
    have KK5 : Keep h0 T5.heap [u0, bv] := Keep.trans (Keep.refl h0 [u0, bv]) K5 (allS (Or.inl (List.mem_of_getElem? (i := 0) rfl)) all0)
    have N5 := Fr.app N2 N5q
    have f17 := (own_staKeep P_S_String_COMPACT_STRINGS K5 (nsS P_E_u0.nostat ns0))
    have f18 := (Nat.le_trans Z0 K5.1)
    obtain ⟨_, T19, L19, X19, hQ19, st19⟩ := own_cV X5 hx hown hZ (oG hw 136 rfl) (oG hw 137 rfl) (oG hw 139 rfl) (oG hw 138 rfl) (oG hw 65 rfl) (oG hw 140 rfl) (by decide) (rmIL l Z a0 hw [] u0 zC T5.heap n0 f18 f6 f8 f17 hz) (W := 0) (by decide) (by decide) f6 (g := (mkF m 18 #[rv u0, iv p1, iv cnt, iv (cnt + (own_ni p1))] [(.ref u0)])) rfl (by rw [hml]; rfl) (argsL := []) (rest := []) (lenOf pd3 rfl) rfl (own_ww rfl) (oD hby D18 12 rfl) rfl rfl (by decide) (by decide)
    obtain ⟨rfl, N19q, e19⟩ := hQ19
    have N19 := Fr.app N5 N19q
    obtain ⟨T20, X20, e20, st20⟩ := getF X19 hx hZ hown (host := "") (Or.inl (oG hw 69 rfl)) Via.refl e19 f7 (g := (mkF m 27 #[rv u0, iv p1, iv cnt, iv (cnt + (own_ni p1))] [(.ref u0), (.int (cnt + (own_ni p1))), (.int p1)])) rfl rfl (oD hby D18 17 rfl)
    have f21 := (own_staKeep P_S_Integer_DigitOnes K5 (nsS P_E_u0.nostat ns0))
    have f22 := (own_staKeep P_S_Integer_DigitTens K5 (nsS P_E_u0.nostat ns0))
    have f23 := (P_G_dO.keep K5 (ninS neA nin0))
    have f24 := (P_G_dT.keep K5 (ninS neB nin0))
    obtain ⟨_, T25, L25, X25, hQ25, st25⟩ := own_cS X20 hx hown hZ (oG hw 141 rfl) (oG hw 142 rfl) (oG hw 134 rfl) (oG hw 143 rfl) (by decide) (rmGC l Z a0 hw [] p1 (cnt + (own_ni p1)) t1_5 k1_5 (34 : Int32) b1_5 xl dO kO vO dT kT vT T5.heap n0 f18 f10 f11 f21 f22 f23 f24 hO hT ne15 ne16 hv (own_gi0 wl w34 f12.2 f12.1 (own_fit34 w34)) ot1_5) (W := 0) (by decide) (by decide) (g := (mkF m 30 #[rv u0, iv p1, iv cnt, iv (cnt + (own_ni p1))] [(.ref t1_5), (.int (cnt + (own_ni p1))), (.int p1)])) rfl (by rw [hml]; rfl) (argsL := [(.int p1), (.int (cnt + (own_ni p1))), (.ref t1_5)]) (rest := []) (lenOf pd27 rfl) rfl (own_ww rfl) (oD hby D18 18 rfl) e20 rfl (by decide) (by decide)
    have f26 := (P_E_bv.keep K5)
    obtain ⟨jr_25, b2_25, rfl, N25q, K25, f27, f28⟩ := hQ25
    have KK25 : Keep h0 T25.heap [u0, bv] := Keep.trans KK5 K25 (allS (Or.inr zt1_5) all0)
    have N25 := Fr.app N19 N25q
    have f29 := (f6.keep K25)
    have f30 := (f9.keep K25 (ninS ne13 nin0))
    obtain ⟨T31, h31, X31, e31, W31, st31⟩ := putF X25 hx hZ hown (host := "") (Or.inl (oG hw 94 rfl)) Via.refl rfl f30 f29 (Or.inl (oG hw 95 rfl)) (oG hw 56 rfl) (ty := .int) (by decide) rfl rfl (g := (mkF m 50 #[rv u0, iv p1, iv cnt, iv (cnt + (own_ni p1))] [(.int (cnt + (own_ni p1))), (.ref u0)])) rfl rfl (oD hby D18 23 rfl)
    have f31_ : Fld Z h31 u0 "java/lang/AbstractStringBuilder" "count" "I" (.int (cnt + (own_ni p1))) := f30.same W31
    have N32 := Fr.snoc X31 N25 g_u0
    have K33 : Keep h0 h31 [u0, bv] := KK25.wr W31 (Or.inl (List.mem_of_getElem? (i := 0) rfl))
    obtain ⟨fs, hr, hrun, hended, hW, hsame⟩ := X31.leave (v := some (.ref u0)) (fun h => by rw [Bd.returns] at h; cases h)
    have f34 := (f29.wr W31)
    have f35 := ((f7.keep K25 (ninS ne13 nin0)).other W31 (Or.inr (slot_ne (Or.inl (oG hw 70 rfl)) (Or.inl (oG hw 95 rfl)) (by decide) (t := (.array .byte)) (t' := .int) (by decide) (by decide))))
    have f36 := ((f8.keep K25 (ninS ne13 nin0)).other W31 (Or.inr (slot_ne (Or.inl (oG hw 72 rfl)) (Or.inl (oG hw 95 rfl)) (by decide) (t := .byte) (t' := .int) (by decide) (by decide))))
    have f37 := ((f10.keep K25).wr W31)
    have f38 := (f27.other W31 (Ne.symm ne13))
    refine ⟨_, _, pre4 _ ?_, hrun, hended, _, _, rfl, ?_, ⟨_, rfl⟩, hW, hsame.mono (by decide) (by decide)⟩
    · refine XS.aloadN X2.here hx rfl (oD hby D18 8 rfl) rfl rfl ?_
      refine XS.iloadN X2.here hx rfl (oD hby D18 9 rfl) rfl ?_
      refine st5 _ ?_
      refine XS.aloadN X5.here hx rfl (oD hby D18 11 rfl) rfl rfl ?_
      refine st19 _ ?_
      refine XS.ifNo X19.here hx rfl (oD hby D18 13 rfl) rfl ((if0 _ _).trans (feq (by decide : ¬ ((1 : Int32) = (0 : Int32)))).1) ?_
      refine XS.iloadN X19.here hx rfl (oD hby D18 14 rfl) rfl ?_
      refine XS.iloadN X19.here hx rfl (oD hby D18 15 rfl) rfl ?_
      refine XS.aloadN X19.here hx rfl (oD hby D18 16 rfl) rfl rfl ?_
      refine st20 _ ?_
      refine st25 _ ?_
      refine XS.pop X25.here hx rfl (oD hby D18 19 rfl) rfl rfl ?_
      refine XS.goto X25.here hx rfl (pc0 := 34) (pc' := 48) rfl (oD hby D18 20 rfl) (by decide) (by decide) ?_
      refine XS.aloadN X25.here hx rfl (oD hby D18 21 rfl) rfl rfl ?_
      refine XS.iloadN X25.here hx rfl (oD hby D18 22 rfl) rfl ?_
      refine st31 _ ?_
      refine XS.aloadN X31.here hx rfl (oD hby D18 24 rfl) rfl rfl ?_
      show Steps _ _ _ (T31.setTop (mkF m 54 #[rv u0, iv p1, iv cnt, iv (cnt + (own_ni p1))] [(.ref u0)])) _
      exact retOut X31 hx Bd.returns rfl (Or.inr (Or.inr (Or.inr (Or.inr ⟨rfl, rfl, rfl⟩)))) (oD hby D18 25 rfl) hr
    · show Q_rmAi Z u0 p1 bv kb cap bs cnt xl dO kO vO dT kT vT zC h0 n0 _ T31.heap _
      rw [e31]
      exact ⟨t1_5, k1_5, (34 : Int32), b2_25, (cnt + (own_ni p1)), rfl, N32, K33, f34, f35, f36, f31_, f37, f38, f28, ⟨own_lapp wl (own_dlen p1) w34, own_fin (own_fit34 w34)⟩, (Or.inr zt1_5)⟩
  · obtain ⟨_, T39, L39, X39, hQ39, st39⟩ := own_cV X2 hx hown hZ (oG hw 96 rfl) (own_decl (oG hw 97 rfl) (oG hw 100 rfl)) (oG hw 99 rfl) (oG hw 97 rfl) (oG hw 65 rfl) (oG hw 100 rfl) (by decide) (rmE0 l Z a0 hw [] u0 (cnt + (own_ni p1)) bv kb cap bs cnt h0 n0 Z0 P_E_u0 P_F_u0_AbstractStringBuilder_value P_F_u0_AbstractStringBuilder_coder P_F_u0_AbstractStringBuilder_count P_E_bv P_G_bv hc12_3) (W := 0) (by decide) (by decide) P_E_u0 (g := (mkF m 14 #[rv u0, iv p1, iv cnt, iv (cnt + (own_ni p1))] [(.int (cnt + (own_ni p1))), (.ref u0)])) rfl (by rw [hml]; rfl) (argsL := [(.int (cnt + (own_ni p1)))]) (rest := []) (lenOf pd7 rfl) rfl (own_ww rfl) (oD hby D18 10 rfl) e2 rfl (by decide) (by decide)
    obtain ⟨rfl, N39q, e39⟩ := hQ39
    have N39 := Fr.app N2 N39q
    obtain ⟨_, T40, L40, X40, hQ40, st40⟩ := own_cV X39 hx hown hZ (oG hw 136 rfl) (oG hw 137 rfl) (oG hw 139 rfl) (oG hw 138 rfl) (oG hw 65 rfl) (oG hw 140 rfl) (by decide) (rmIL l Z a0 hw [] u0 zC h0 n0 Z0 P_E_u0 P_F_u0_AbstractStringBuilder_coder P_S_String_COMPACT_STRINGS hz) (W := 0) (by decide) (by decide) P_E_u0 (g := (mkF m 18 #[rv u0, iv p1, iv cnt, iv (cnt + (own_ni p1))] [(.ref u0)])) rfl (by rw [hml]; rfl) (argsL := []) (rest := []) (lenOf pd3 rfl) rfl (own_ww rfl) (oD hby D18 12 rfl) e39 rfl (by decide) (by decide)
    obtain ⟨rfl, N40q, e40⟩ := hQ40
    have N40 := Fr.app N39 N40q
    obtain ⟨T41, X41, e41, st41⟩ := getF X40 hx hZ hown (host := "") (Or.inl (oG hw 69 rfl)) Via.refl e40 P_F_u0_AbstractStringBuilder_value (g := (mkF m 27 #[rv u0, iv p1, iv cnt, iv (cnt + (own_ni p1))] [(.ref u0), (.int (cnt + (own_ni p1))), (.int p1)])) rfl rfl (oD hby D18 17 rfl)
    obtain ⟨_, T42, L42, X42, hQ42, st42⟩ := own_cS X41 hx hown hZ (oG hw 141 rfl) (oG hw 142 rfl) (oG hw 134 rfl) (oG hw 143 rfl) (by decide) (rmGC l Z a0 hw [] p1 (cnt + (own_ni p1)) bv kb cap bs xl dO kO vO dT kT vT h0 n0 Z0 P_E_bv P_G_bv P_S_Integer_DigitOnes P_S_Integer_DigitTens P_G_dO P_G_dT hO hT neC neD hv (own_gi0 wl w34 wc wh (own_nogrow wl (own_dlen p1) w34 wc hc12_3)) g_bv) (W := 0) (by decide) (by decide) (g := (mkF m 30 #[rv u0, iv p1, iv cnt, iv (cnt + (own_ni p1))] [(.ref bv), (.int (cnt + (own_ni p1))), (.int p1)])) rfl (by rw [hml]; rfl) (argsL := [(.int p1), (.int (cnt + (own_ni p1))), (.ref bv)]) (rest := []) (lenOf pd27 rfl) rfl (own_ww rfl) (oD hby D18 18 rfl) e41 rfl (by decide) (by decide)
    obtain ⟨jr_42, b2_42, rfl, N42q, K42, f43, f44⟩ := hQ42
    have KK42 : Keep h0 T42.heap [u0, bv] := Keep.trans (Keep.refl h0 [u0, bv]) K42 (allS (Or.inl (List.mem_of_getElem? (i := 1) rfl)) all0)
    have N42 := Fr.app N40 N42q
    have f45 := (P_E_u0.keep K42)
    have f46 := (P_F_u0_AbstractStringBuilder_count.keep K42 (ninS (Ne.symm neE) nin0))
    obtain ⟨T47, h47, X47, e47, W47, st47⟩ := putF X42 hx hZ hown (host := "") (Or.inl (oG hw 94 rfl)) Via.refl rfl f46 f45 (Or.inl (oG hw 95 rfl)) (oG hw 56 rfl) (ty := .int) (by decide) rfl rfl (g := (mkF m 50 #[rv u0, iv p1, iv cnt, iv (cnt + (own_ni p1))] [(.int (cnt + (own_ni p1))), (.ref u0)])) rfl rfl (oD hby D18 23 rfl)
    have f47_ : Fld Z h47 u0 "java/lang/AbstractStringBuilder" "count" "I" (.int (cnt + (own_ni p1))) := f46.same W47
    have N48 := Fr.snoc X47 N42 g_u0
    have K49 : Keep h0 h47 [u0, bv] := KK42.wr W47 (Or.inl (List.mem_of_getElem? (i := 0) rfl))
    obtain ⟨fs, hr, hrun, hended, hW, hsame⟩ := X47.leave (v := some (.ref u0)) (fun h => by rw [Bd.returns] at h; cases h)
    have f50 := (f45.wr W47)
    have f51 := ((P_F_u0_AbstractStringBuilder_value.keep K42 (ninS (Ne.symm neE) nin0)).other W47 (Or.inr (slot_ne (Or.inl (oG hw 70 rfl)) (Or.inl (oG hw 95 rfl)) (by decide) (t := (.array .byte)) (t' := .int) (by decide) (by decide))))
    have f52 := ((P_F_u0_AbstractStringBuilder_coder.keep K42 (ninS (Ne.symm neE) nin0)).other W47 (Or.inr (slot_ne (Or.inl (oG hw 72 rfl)) (Or.inl (oG hw 95 rfl)) (by decide) (t := .byte) (t' := .int) (by decide) (by decide))))
    have f53 := ((P_E_bv.keep K42).wr W47)
    have f54 := (f43.other W47 neE)
    refine ⟨_, _, pre4 _ ?_, hrun, hended, _, _, rfl, ?_, ⟨_, rfl⟩, hW, hsame.mono (by decide) (by decide)⟩
    · refine XS.aloadN X2.here hx rfl (oD hby D18 8 rfl) rfl rfl ?_
      refine XS.iloadN X2.here hx rfl (oD hby D18 9 rfl) rfl ?_
      refine st39 _ ?_
      show Steps _ _ _ (T39.setTop (mkF m 17 #[rv u0, iv p1, iv cnt, iv (cnt + (own_ni p1))] [])) _
      refine XS.aloadN X39.here hx rfl (oD hby D18 11 rfl) rfl rfl ?_
      refine st40 _ ?_
      refine XS.ifNo X40.here hx rfl (oD hby D18 13 rfl) rfl ((if0 _ _).trans (feq (by decide : ¬ ((1 : Int32) = (0 : Int32)))).1) ?_
      refine XS.iloadN X40.here hx rfl (oD hby D18 14 rfl) rfl ?_
      refine XS.iloadN X40.here hx rfl (oD hby D18 15 rfl) rfl ?_
      refine XS.aloadN X40.here hx rfl (oD hby D18 16 rfl) rfl rfl ?_
      refine st41 _ ?_
      refine st42 _ ?_
      refine XS.pop X42.here hx rfl (oD hby D18 19 rfl) rfl rfl ?_
      refine XS.goto X42.here hx rfl (pc0 := 34) (pc' := 48) rfl (oD hby D18 20 rfl) (by decide) (by decide) ?_
      refine XS.aloadN X42.here hx rfl (oD hby D18 21 rfl) rfl rfl ?_
      refine XS.iloadN X42.here hx rfl (oD hby D18 22 rfl) rfl ?_
      refine st47 _ ?_
      refine XS.aloadN X47.here hx rfl (oD hby D18 24 rfl) rfl rfl ?_
      show Steps _ _ _ (T47.setTop (mkF m 54 #[rv u0, iv p1, iv cnt, iv (cnt + (own_ni p1))] [(.ref u0)])) _
      exact retOut X47 hx Bd.returns rfl (Or.inr (Or.inr (Or.inr (Or.inr ⟨rfl, rfl, rfl⟩)))) (oD hby D18 25 rfl) hr
    · show Q_rmAi Z u0 p1 bv kb cap bs cnt xl dO kO vO dT kT vT zC h0 n0 _ T47.heap _
      rw [e47]
      exact ⟨bv, kb, cap, b2_42, (cnt + (own_ni p1)), rfl, N48, K49, f50, f51, f52, f47_, f53, f54, f44, ⟨own_lapp wl (own_dlen p1) w34, own_fin (own_nogrow wl (own_dlen p1) w34 wc hc12_3)⟩, (Or.inl rfl)⟩

theorem ef_rmBi (m : MethodId) (x0 : Addr) (x1 : Int32) : entryFrame m #[(.ref x0), (.int x1)] 2 = mkF m 0 #[rv x0, iv x1] [] := by first | (simp [entryFrame, mkF, argsToLocals, Value.category]; done) | rfl
def Q_rmBi (Z : State) (u0 : Addr) (p1 : Int32) (bv : Addr) (kb : ClassId) (cap : Int32) (bs : List Value) (cnt : Int32) (xl : List Int32) (dO : Addr) (kO : ClassId) (vO : List Value) (dT : Addr) (kT : ClassId) (vT : List Value) (zC : Int32) (h0 : Heap) (n0 : Nat) (v : Option Value) (h : Heap) (L : List Loc) : Prop := ∃ (t2 : Jvm.Addr), ∃ (k2 : ClassId), ∃ (cap2 : Int32), ∃ (b2 : List Value), ∃ (cn2 : Int32), (v = (some (.ref u0)) ∧ Fr n0 L ∧ Keep h0 h [u0, bv] ∧ Exa Z h u0 "java/lang/StringBuilder" ∧ Fld Z h u0 "java/lang/AbstractStringBuilder" "value" "[B" (.ref t2) ∧ Fld Z h u0 "java/lang/AbstractStringBuilder" "coder" "B" (.int (0 : Int32)) ∧ Fld Z h u0 "java/lang/AbstractStringBuilder" "count" "I" (.int cn2) ∧ Exa Z h t2 "[B" ∧ Arv Z h t2 k2 .byte cap2 b2 (.int 0) ∧ (own_has b2 (xl ++ own_dl p1) ∧ own_cap cap2 b2) ∧ (own_len (xl ++ own_dl p1) cn2 ∧ own_in (xl ++ own_dl p1) cap2) ∧ ((t2 = bv ∨ h0.size ≤ t2)))
theorem rmBi (l : Launch) (Z : State) (a0 : Array Value) (hw : own_W a0 Z) (ws : List Jvm.Cond) (u0 : Addr) (p1 : Int32) (bv : Addr) (kb : ClassId) (cap : Int32) (bs : List Value) (cnt : Int32) (xl : List Int32) (dO : Addr) (kO : ClassId) (vO : List Value) (dT : Addr) (kT : ClassId) (vT : List Value) (zC : Int32) (h0 : Heap) (n0 : Nat) (Z0 : n0 ≤ h0.size) (P_E_u0 : Exa Z h0 u0 "java/lang/StringBuilder") (P_F_u0_AbstractStringBuilder_value : Fld Z h0 u0 "java/lang/AbstractStringBuilder" "value" "[B" (.ref bv)) (P_F_u0_AbstractStringBuilder_coder : Fld Z h0 u0 "java/lang/AbstractStringBuilder" "coder" "B" (.int (0 : Int32))) (P_F_u0_AbstractStringBuilder_count : Fld Z h0 u0 "java/lang/AbstractStringBuilder" "count" "I" (.int cnt)) (P_E_bv : Exa Z h0 bv "[B") (P_G_bv : Arv Z h0 bv kb .byte cap bs (.int 0)) (P_S_Integer_DigitOnes : Sta Z h0 "java/lang/Integer" "DigitOnes" "[B" (.ref dO)) (P_S_Integer_DigitTens : Sta Z h0 "java/lang/Integer" "DigitTens" "[B" (.ref dT)) (P_G_dO : Arv Z h0 dO kO .byte (100 : Int32) vO (.int 0)) (P_G_dT : Arv Z h0 dT kT .byte (100 : Int32) vT (.int 0)) (hO : own_do vO) (hT : own_dt vT) (neE : bv ≠ u0) (neA : dO ≠ u0) (neB : dT ≠ u0) (neC : dO ≠ bv) (neD : dT ≠ bv) (P_S_String_COMPACT_STRINGS : Sta Z h0 "java/lang/String" "COMPACT_STRINGS" "Z" (.int zC)) (hz : ¬ (zC = (0 : Int32))) (wi : own_in xl cap) (wl : own_len xl cnt) (w34 : xl.length + (own_dl p1).length ≤ 34) (wc : own_cap cap bs) (wh : own_has bs xl) (hv : ¬ p1 < 0) (g_u0 : n0 ≤ u0) (g_bv : n0 ≤ bv) :
    own_MF l own_y44 (Jvm.Cond.code own_y44 jdk_67_method_15_code 2 (some (.object "java/lang/StringBuilder"))) ws ({ frames := 5, cells := 1, slots := 34, locals := 77 } : Room) #[(.ref u0), (.int p1)] Z h0 (Q_rmBi Z u0 p1 bv kb cap bs cnt xl dO kO vO dT kT vT zC h0 n0) := by
  refine own_enter (n0 := n0) (plainFor_of_name pn_7) (C := "java/lang/StringBuilder") rfl (fun m => ef_rmBi m u0 p1) fun p e s m below meth c s₁ Bd hx hby hml hown hnm hZ hh X0 e0 N0 pre0 => ?_
  obtain ⟨_, _, ⟨T1, L1, k1, n1⟩, -, X1, ⟨Lc1, hQ1, l1, y1, z1⟩, st1⟩ := superBack X0 hx hZ (y := own_y43) hown (oG hw 128 rfl) (own_same (y' := own_y16) (C := "java/lang/StringBuilder") (oG hw 129 rfl) (oG hw 131 rfl) (oG hw 99 rfl) rfl (by decide)) (oG hw 129 rfl) (oG hw 80 rfl) (by decide) (backOf (W := 0) (rmAi l Z a0 hw [] u0 p1 bv kb cap bs cnt xl dO kO vO dT kT vT zC h0 n0 Z0 P_E_u0 P_F_u0_AbstractStringBuilder_value P_F_u0_AbstractStringBuilder_coder P_F_u0_AbstractStringBuilder_count P_E_bv P_G_bv P_S_Integer_DigitOnes P_S_Integer_DigitTens P_G_dO P_G_dT hO hT neE neA neB neC neD P_S_String_COMPACT_STRINGS hz wi wl w34 wc wh hv g_u0 g_bv) hZ (oG hw 131 rfl) (oG hw 65 rfl) (by decide) (by decide)) e0 (Ins.self P_E_u0) (g := (mkF m 2 #[rv u0, iv p1] [(.int p1), (.ref u0)])) rfl (by rw [hml]; rfl) (oG hw 131 rfl) (argsL := [(.int p1)]) (rest := []) (lenOf pd28 rfl) rfl (by show 2 * 0 + _ ≤ _; exact Nat.le_of_eq rfl) (oD hby D17 2 rfl) (fun _ _ => ⟨rfl, e0, (by decide : 0 + 1 ≤ _), (by decide : 0 + 34 ≤ _)⟩)
  dsimp only [Pt.U, Pt.locs, Pt.cells, Pt.slots] at X1 l1 y1 z1 st1 hQ1
  subst l1 y1 z1
  obtain ⟨t2_1, k2_1, cap2_1, b2_1, cn2_1, rfl, N1q, K1, f2, f3, f4, f5, f6, f7, f8, f9, f10⟩ := hQ1
  have KK1 : Keep h0 T1.heap [u0, bv] := Keep.trans (Keep.refl h0 [u0, bv]) K1 (allS (Or.inl (List.mem_of_getElem? (i := 0) rfl)) (allS (Or.inl (List.mem_of_getElem? (i := 1) rfl)) all0))
  have N1 := Fr.app N0 N1q
  have oq11 : n0 ≤ t2_1 := own_orc f10 g_bv (fun e_ => Nat.le_trans Z0 e_)
  have nq12 : u0 ≠ t2_1 := own_orn f10 (Ne.symm neE) (fun e_ => Nat.ne_of_lt (Nat.lt_of_lt_of_le P_E_u0.lt e_))
  have nq13 : dO ≠ t2_1 := own_orn f10 neC (fun e_ => Nat.ne_of_lt (Nat.lt_of_lt_of_le P_G_dO.lt e_))
  have nq14 : dT ≠ t2_1 := own_orn f10 neD (fun e_ => Nat.ne_of_lt (Nat.lt_of_lt_of_le P_G_dT.lt e_))
  obtain ⟨fs, hr, hrun, hended, hW, hsame⟩ := X1.leave (v := some (.ref u0)) (fun h => by rw [Bd.returns] at h; cases h)
  refine ⟨_, _, pre0 _ ?_, hrun, hended, _, _, rfl, ?_, ⟨_, rfl⟩, hW, hsame.mono (by decide) (by decide)⟩
  · refine XS.aloadN X0.here hx rfl (oD hby D17 0 rfl) rfl rfl ?_
    refine XS.iloadN X0.here hx rfl (oD hby D17 1 rfl) rfl ?_
    refine st1.trans ?_
    refine XS.pop X1.here hx rfl (oD hby D17 3 rfl) rfl rfl ?_
    refine XS.aloadN X1.here hx rfl (oD hby D17 4 rfl) rfl rfl ?_
    show Steps _ _ _ (T1.setTop (mkF m 7 #[rv u0, iv p1] [(.ref u0)])) _
    exact retOut X1 hx Bd.returns rfl (Or.inr (Or.inr (Or.inr (Or.inr ⟨rfl, rfl, rfl⟩)))) (oD hby D17 5 rfl) hr
  · show Q_rmBi Z u0 p1 bv kb cap bs cnt xl dO kO vO dT kT vT zC h0 n0 _ T1.heap _
    exact ⟨t2_1, k2_1, cap2_1, b2_1, cn2_1, rfl, N1, KK1, f2, f3, f4, f5, f6, f7, f8, f9, f10⟩

theorem ef_rmTo (m : MethodId) (x0 : Addr) : entryFrame m #[(.ref x0)] 3 = mkF m 0 #[rv x0, .unset, .unset] [] := by first | (simp [entryFrame, mkF, argsToLocals, Value.category]; done) | rfl
def Q_rmTo (Z : State) (u0 : Addr) (tl : Int32) (ho : Addr) (po : Int32) (db : Int32) (pv : Value) (pw : Int32) (th : Addr) (kh : ClassId) (zh : Int32) (vh : List Value) (xh : List Int32) (zC : Int32) (dO : Addr) (kO : ClassId) (vO : List Value) (dT : Addr) (kT : ClassId) (vT : List Value) (h0 : Heap) (n0 : Nat) (v : Option Value) (h : Heap) (L : List Loc) : Prop := ∃ (sg : Addr), ∃ (yv : Addr), ∃ (ky : ClassId), ∃ (zl : Int32), ∃ (ys : List Value), (v = (some (.ref sg)) ∧ Fr n0 L ∧ Keep h0 h [] ∧ h0.size ≤ sg ∧ h0.size ≤ yv ∧ sg ≠ yv ∧ Exa Z h sg "java/lang/String" ∧ Fld Z h sg "java/lang/String" "value" "[B" (.ref yv) ∧ Fld Z h sg "java/lang/String" "coder" "B" (.int (0 : Int32)) ∧ Arv Z h yv ky .byte zl ys (.int 0) ∧ (own_has ys ((((((((own_sch tl) ++ ([58, 47, 47] : List Int32)) ++ own_lg pw) ++ xh) ++ ([58] : List Int32)) ++ own_dl po) ++ ([47] : List Int32)) ++ own_dl db)) ∧ (own_len ((((((((own_sch tl) ++ ([58, 47, 47] : List Int32)) ++ own_lg pw) ++ xh) ++ ([58] : List Int32)) ++ own_dl po) ++ ([47] : List Int32)) ++ own_dl db) zl))
theorem rmTo (l : Launch) (Z : State) (a0 : Array Value) (hw : own_W a0 Z) (ws : List Jvm.Cond) (u0 : Addr) (tl : Int32) (ho : Addr) (po : Int32) (db : Int32) (pv : Value) (pw : Int32) (th : Addr) (kh : ClassId) (zh : Int32) (vh : List Value) (xh : List Int32) (zC : Int32) (dO : Addr) (kO : ClassId) (vO : List Value) (dT : Addr) (kT : ClassId) (vT : List Value) (h0 : Heap) (n0 : Nat) (Z0 : n0 ≤ h0.size) (P_E_u0 : Exa Z h0 u0 "com/example/fastpath/fastpath/settings/RedisServer") (P_F_u0_RedisServer_tls : Fld Z h0 u0 "com/example/fastpath/fastpath/settings/RedisServer" "tls" "Z" (.int tl)) (P_F_u0_RedisServer_host : Fld Z h0 u0 "com/example/fastpath/fastpath/settings/RedisServer" "host" "Ljava/lang/String;" (.ref ho)) (P_F_u0_RedisServer_port : Fld Z h0 u0 "com/example/fastpath/fastpath/settings/RedisServer" "port" "I" (.int po)) (P_F_u0_RedisServer_password : Fld Z h0 u0 "com/example/fastpath/fastpath/settings/RedisServer" "password" "Ljava/lang/String;" pv) (P_F_u0_RedisServer_database : Fld Z h0 u0 "com/example/fastpath/fastpath/settings/RedisServer" "database" "I" (.int db)) (P_E_ho : Exa Z h0 ho "java/lang/String") (P_F_ho_String_value : Fld Z h0 ho "java/lang/String" "value" "[B" (.ref th)) (P_F_ho_String_coder : Fld Z h0 ho "java/lang/String" "coder" "B" (.int (0 : Int32))) (P_G_th : Arv Z h0 th kh .byte zh vh (.int 0)) (P_S_String_COMPACT_STRINGS : Sta Z h0 "java/lang/String" "COMPACT_STRINGS" "Z" (.int zC)) (hz : ¬ (zC = (0 : Int32))) (P_S_Integer_DigitOnes : Sta Z h0 "java/lang/Integer" "DigitOnes" "[B" (.ref dO)) (P_S_Integer_DigitTens : Sta Z h0 "java/lang/Integer" "DigitTens" "[B" (.ref dT)) (P_G_dO : Arv Z h0 dO kO .byte (100 : Int32) vO (.int 0)) (P_G_dT : Arv Z h0 dT kT .byte (100 : Int32) vT (.int 0)) (hO : own_do vO) (hT : own_dt vT) (hpv : (pw = (0 : Int32) ∧ pv = .null) ∨ (¬ pw = (0 : Int32) ∧ ∃ a, pv = .ref a)) (whh : own_has vh xh) (wnh : own_len xh zh) (wkh : xh.length ≤ 3) (hpo : ¬ po < 0) (h5 : ¬ (65535 : Int32) < po) (hdb : ¬ db < 0) :
    MetFree l own_y45 (head1 (Jvm.Cond.code own_y45 prog_20_method_2_code 3 (some (.object "java/lang/String")) :: ws) ({ frames := 6, cells := 22, slots := 410, locals := 91 } : Room)) (fun a U => a = #[(.ref u0)] ∧ Z.Warmed39 U.vm ∧ U.heap = h0 ∧ CHv Z own_EL U.vm h0) (fun _ _ _ _ _ => True) (fun _ U o U' => ∃ v L, o = .returned v ∧ Q_rmTo Z u0 tl ho po db pv pw th kh zh vh xh zC dO kO vO dT kT vT h0 n0 v U'.heap L ∧ CHr Z own_EL U.vm U.heap U'.vm U'.heap ∧ ReturnedEndW U o U' L ({ frames := 6, cells := 22, slots := 410, locals := 91 } : Room).cells ({ frames := 6, cells := 22, slots := 410, locals := 91 } : Room).slots) := by
  refine MetFree.of_bodySF (plainFor_of_name pn_4) hisR ?_
  intro p e s m args below meth c s₁ Bd hml0 hP hK
  obtain ⟨rfl, hZ, hh, hCH⟩ := hP
  have hx := Bd.exec
  have hby := Bd.bytes
  have hml : c.maxLocals = 3 := hml0
  have hown : s.vm.findClass "com/example/fastpath/fastpath/settings/RedisServer" = some m.cls := findClass_of_methodNamed Bd.named
  have hnm := (name_of_methodNamed Bd.named Bd.method).1
  have X0 : Stand p l e ({ frames := 6, cells := 22, slots := 410, locals := 91 } : Room) s m #[(.ref u0)] below meth c s₁ [] 0 0 := Stand.of_body Bd
  have e0 : s₁.heap = h0 := by rw [← hh, Bd.state]; rfl
  have N0 := Fr.nil n0
  have pre0 : ∀ t, Steps p.tables e below (s₁.setTop (mkF m 0 #[rv u0, .unset, .unset] [])) t → Steps p.tables e below (s₁.setTop (entryFrame m #[(.ref u0)] 3)) t := fun t k => castTop (ef_rmTo m u0) k
  have hEL : EW Z a0 own_EL := own_hEL hw
  have wS : ∀ a ∈ Bundle.stringAtoms, a.before a0 Z = true := fun d hd => hw d ((by decide +kernel : ∀ d ∈ Bundle.stringAtoms, d ∈ tables_1) d hd)
  have CH0 : CHr Z own_EL s.vm h0 s.vm h0 := CHr.refl hCH
  have hS0 : s.Since s.vm h0.size := (State.WarmedH.refl s).since _
  obtain ⟨T1, X1, e1, st1⟩ := getF X0 hx hZ hown (host := "") (Or.inl (oG hw 36 rfl)) Via.refl e0 P_F_u0_RedisServer_tls (g := (mkF m 1 #[rv u0, .unset, .unset] [(.ref u0)])) rfl rfl (oD hby D6 1 rfl)
  have pre2 : own_V p e below _ T1 (mkF m 4 #[rv u0, .unset, .unset] [(.int tl)]) := fun t kt => pre0 t (by
   refine XS.aloadN X0.here hx rfl (oD hby D6 0 rfl) rfl rfl ?_
   refine st1 _ ?_
   exact kt)
  have Mg44 : ∃ (T44 : State) (L44 : List Loc) (x44_S0 : Addr) (vm44 : Vm) (kx44 : Nat) (scx : Addr) (tsx : Addr) (ksx : ClassId) (zsx : Int32) (vsx : List Value), Stand p l e ({ frames := 6, cells := 22, slots := 410, locals := 91 } : Room) (s.setVm vm44) m #[(.ref u0)] below meth c T44 L44 2 28 ∧ Fr n0 L44 ∧ Keep h0 T44.heap [] ∧ CHr Z own_EL s.vm h0 vm44 T44.heap ∧ n0 ≤ T44.heap.size ∧ Exa Z T44.heap u0 "com/example/fastpath/fastpath/settings/RedisServer" ∧ Fld Z T44.heap u0 "com/example/fastpath/fastpath/settings/RedisServer" "tls" "Z" (.int tl) ∧ Fld Z T44.heap u0 "com/example/fastpath/fastpath/settings/RedisServer" "host" "Ljava/lang/String;" (.ref ho) ∧ Fld Z T44.heap u0 "com/example/fastpath/fastpath/settings/RedisServer" "port" "I" (.int po) ∧ Fld Z T44.heap u0 "com/example/fastpath/fastpath/settings/RedisServer" "password" "Ljava/lang/String;" pv ∧ Fld Z T44.heap u0 "com/example/fastpath/fastpath/settings/RedisServer" "database" "I" (.int db) ∧ Exa Z T44.heap ho "java/lang/String" ∧ Fld Z T44.heap ho "java/lang/String" "value" "[B" (.ref th) ∧ Fld Z T44.heap ho "java/lang/String" "coder" "B" (.int (0 : Int32)) ∧ Arv Z T44.heap th kh .byte zh vh (.int 0) ∧ Sta Z T44.heap "java/lang/String" "COMPACT_STRINGS" "Z" (.int zC) ∧ Sta Z T44.heap "java/lang/Integer" "DigitOnes" "[B" (.ref dO) ∧ Sta Z T44.heap "java/lang/Integer" "DigitTens" "[B" (.ref dT) ∧ Arv Z T44.heap dO kO .byte (100 : Int32) vO (.int 0) ∧ Arv Z T44.heap dT kT .byte (100 : Int32) vT (.int 0) ∧ kx44 ≤ T44.heap.size ∧ Z.Warmed39 (s.setVm vm44).vm ∧ (s.setVm vm44).vm.findClass "com/example/fastpath/fastpath/settings/RedisServer" = some m.cls ∧ s.Since vm44 kx44 ∧ Exa Z T44.heap scx "java/lang/String" ∧ Fld Z T44.heap scx "java/lang/String" "value" "[B" (.ref tsx) ∧ Fld Z T44.heap scx "java/lang/String" "coder" "B" (.int (0 : Int32)) ∧ Arv Z T44.heap tsx ksx .byte zsx vsx (.int 0) ∧ (own_has vsx (own_sch tl)) ∧ (own_len (own_sch tl) zsx) ∧ x44_S0 = scx ∧ own_V p e below (s₁.setTop (entryFrame m #[(.ref u0)] 3)) T44 (mkF m 14 #[rv u0, .unset, .unset] [(.ref x44_S0)]) := by
    by_cases hc4_3 : tl = (0 : Int32)
    · have pre4 : own_V p e below _ T1 (mkF m 12 #[rv u0, .unset, .unset] []) := fun t kt => pre2 t (by
       refine XS.ifYes X1.here hx rfl (pc0 := 4) (pc' := 12) rfl (oD hby D6 2 rfl) rfl ((if0 _ _).trans (teq hc4_3).1) (by decide) (by decide) ?_
       exact kt)
      obtain ⟨a5, T5, h5, kk5, b5, kc5, X5, e5, E5, hS5, hk5, hZ5, hown5, Ea5, Ca5, Va5, Aa5, la5, lb5, CHq5, Lt5, nx5, st5⟩ := ldcCH (vs := [(.int (114 : Int32)), (.int (101 : Int32)), (.int (100 : Int32)), (.int (105 : Int32)), (.int (115 : Int32))]) (z := (5 : Int32)) (show Stand p l e ({ frames := 6, cells := 22, slots := 410, locals := 91 } : Room) (s.setVm s.vm) m _ below meth c _ _ _ _ from X1) hx hZ hown (oG hw 53 rfl) wS e1 hS0 (Nat.le_refl h0.size) hEL (List.mem_of_getElem? (i := 1) rfl) CH0.1 ⟨by decide, rfl⟩ (by decide) rfl (g := (mkF m 12 #[rv u0, .unset, .unset] [])) rfl (oD hby D6 3 rfl) (n := 20) (by decide) (by decide) (by decide) (by decide)
      have K5 : Keep h0 h5 [] := (Keep.refl h0 []).ext E5
      have CH6 : CHr Z own_EL s.vm h0 T5.vm h5 := CH0.trans CHq5
      have Qb5 : Exa Z h5 b5 "[B" := own_litB hZ5.alike Aa5 (Classical.byContradiction fun S_ => (nx5 b5 S_).2 rfl)
      have pre7 : own_V p e below _ T5 (mkF m 14 #[rv u0, .unset, .unset] [(.ref a5)]) := fun t kt => pre4 t (by
       refine st5 _ ?_
       exact kt)
      have f8 := (Nat.le_trans Z0 E5.1)
      have f9 := (P_E_u0.ext E5)
      have f10 := (P_F_u0_RedisServer_tls.ext E5)
      have f11 := (P_F_u0_RedisServer_host.ext E5)
      have f12 := (P_F_u0_RedisServer_port.ext E5)
      have f13 := (P_F_u0_RedisServer_password.ext E5)
      have f14 := (P_F_u0_RedisServer_database.ext E5)
      have f15 := (P_E_ho.ext E5)
      have f16 := (P_F_ho_String_value.ext E5)
      have f17 := (P_F_ho_String_coder.ext E5)
      have f18 := (P_G_th.ext E5)
      have f19 := (P_S_String_COMPACT_STRINGS.ext E5)
      have f20 := (P_S_Integer_DigitOnes.ext E5)
      have f21 := (P_S_Integer_DigitTens.ext E5)
      have f22 := (P_G_dO.ext E5)
      have f23 := (P_G_dT.ext E5)
      exact ⟨T5, _, a5, T5.vm, kk5, a5, b5, kc5, (5 : Int32), [(.int (114 : Int32)), (.int (101 : Int32)), (.int (100 : Int32)), (.int (105 : Int32)), (.int (115 : Int32))], X5.more (by decide) (by decide), N0, (by rw [e5]; exact K5), (by rw [e5]; exact CH6), (by rw [e5]; exact f8), (by rw [e5]; exact f9), (by rw [e5]; exact f10), (by rw [e5]; exact f11), (by rw [e5]; exact f12), (by rw [e5]; exact f13), (by rw [e5]; exact f14), (by rw [e5]; exact f15), (by rw [e5]; exact f16), (by rw [e5]; exact f17), (by rw [e5]; exact f18), (by rw [e5]; exact f19), (by rw [e5]; exact f20), (by rw [e5]; exact f21), (by rw [e5]; exact f22), (by rw [e5]; exact f23), (by rw [e5]; exact hk5), hZ5, hown5, hS5, (by rw [e5]; exact Ea5), (by rw [e5]; exact Va5), (by rw [e5]; exact Ca5), (by rw [e5]; exact Aa5), (by rw [own_sh0 hc4_3]; exact own_hasL rfl), (by rw [own_sh0 hc4_3]; unfold own_len; rfl), rfl, pre7⟩
    · have pre24 : own_V p e below _ T1 (mkF m 7 #[rv u0, .unset, .unset] []) := fun t kt => pre2 t (by
       refine XS.ifNo X1.here hx rfl (oD hby D6 2 rfl) rfl ((if0 _ _).trans (feq hc4_3).1) ?_
       exact kt)
      obtain ⟨a25, T25, h25, kk25, b25, kc25, X25, e25, E25, hS25, hk25, hZ25, hown25, Ea25, Ca25, Va25, Aa25, la25, lb25, CHq25, Lt25, nx25, st25⟩ := ldcCH (vs := [(.int (114 : Int32)), (.int (101 : Int32)), (.int (100 : Int32)), (.int (105 : Int32)), (.int (115 : Int32)), (.int (115 : Int32))]) (z := (6 : Int32)) (show Stand p l e ({ frames := 6, cells := 22, slots := 410, locals := 91 } : Room) (s.setVm s.vm) m _ below meth c _ _ _ _ from X1) hx hZ hown (oG hw 246 rfl) wS e1 hS0 (Nat.le_refl h0.size) hEL (List.mem_of_getElem? (i := 0) rfl) CH0.1 ⟨by decide, rfl⟩ (by decide) rfl (g := (mkF m 7 #[rv u0, .unset, .unset] [])) rfl (oD hby D6 4 rfl) (n := 24) (by decide) (by decide) (by decide) (by decide)
      have K25 : Keep h0 h25 [] := (Keep.refl h0 []).ext E25
      have CH26 : CHr Z own_EL s.vm h0 T25.vm h25 := CH0.trans CHq25
      have Qb25 : Exa Z h25 b25 "[B" := own_litB hZ25.alike Aa25 (Classical.byContradiction fun S_ => (nx25 b25 S_).2 rfl)
      have pre27 : own_V p e below _ T25 (mkF m 14 #[rv u0, .unset, .unset] [(.ref a25)]) := fun t kt => pre24 t (by
       refine st25 _ ?_
       refine XS.goto X25.here hx rfl (pc0 := 9) (pc' := 14) rfl (oD hby D6 5 rfl) (by decide) (by decide) ?_
       exact kt)
      have f28 := (Nat.le_trans Z0 E25.1)
      have f29 := (P_E_u0.ext E25)
      have f30 := (P_F_u0_RedisServer_tls.ext E25)
      have f31 := (P_F_u0_RedisServer_host.ext E25)
      have f32 := (P_F_u0_RedisServer_port.ext E25)
      have f33 := (P_F_u0_RedisServer_password.ext E25)
      have f34 := (P_F_u0_RedisServer_database.ext E25)
      have f35 := (P_E_ho.ext E25)
      have f36 := (P_F_ho_String_value.ext E25)
      have f37 := (P_F_ho_String_coder.ext E25)
      have f38 := (P_G_th.ext E25)
      have f39 := (P_S_String_COMPACT_STRINGS.ext E25)
      have f40 := (P_S_Integer_DigitOnes.ext E25)
      have f41 := (P_S_Integer_DigitTens.ext E25)
      have f42 := (P_G_dO.ext E25)
      have f43 := (P_G_dT.ext E25)
      exact ⟨T25, _, a25, T25.vm, kk25, a25, b25, kc25, (6 : Int32), [(.int (114 : Int32)), (.int (101 : Int32)), (.int (100 : Int32)), (.int (105 : Int32)), (.int (115 : Int32)), (.int (115 : Int32))], X25.more (by decide) (by decide), N0, (by rw [e25]; exact K25), (by rw [e25]; exact CH26), (by rw [e25]; exact f28), (by rw [e25]; exact f29), (by rw [e25]; exact f30), (by rw [e25]; exact f31), (by rw [e25]; exact f32), (by rw [e25]; exact f33), (by rw [e25]; exact f34), (by rw [e25]; exact f35), (by rw [e25]; exact f36), (by rw [e25]; exact f37), (by rw [e25]; exact f38), (by rw [e25]; exact f39), (by rw [e25]; exact f40), (by rw [e25]; exact f41), (by rw [e25]; exact f42), (by rw [e25]; exact f43), (by rw [e25]; exact hk25), hZ25, hown25, hS25, (by rw [e25]; exact Ea25), (by rw [e25]; exact Va25), (by rw [e25]; exact Ca25), (by rw [e25]; exact Aa25), (by rw [own_sh1 hc4_3]; exact own_hasL rfl), (by rw [own_sh1 hc4_3]; unfold own_len; rfl), rfl, pre27⟩
  obtain ⟨T44, L44, x44_S0, vm44, kx44, scx, tsx, ksx, zsx, vsx, X44, N44, K44, CH44, f45, f46, f47, f48, f49, f50, f51, f52, f53, f54, f55, f56, f57, f58, f59, f60, f61, hZ44, hown44, hS44, f62, f63, f64, f65, wsh, wsl, mq44_S0, pre44⟩ := Mg44
  rw [mq44_S0] at pre44
  have pre66 : own_V p e below _ T44 (mkF m 16 #[rv u0, rv scx, .unset] [(.ref u0)]) := fun t kt => pre44 t (by
   refine XS.astoreN X44.here hx rfl (oD hby D6 6 rfl) rfl rfl rfl ?_
   refine XS.aloadN X44.here hx rfl (oD hby D6 7 rfl) rfl rfl ?_
   exact kt)
  have Mg117 : ∃ (T117 : State) (L117 : List Loc) (x117_S0 : Addr) (vm117 : Vm) (kx117 : Nat) (lgx : Addr) (tgx : Addr) (kgx : ClassId) (zgx : Int32) (vgx : List Value), Stand p l e ({ frames := 6, cells := 22, slots := 410, locals := 91 } : Room) (s.setVm vm117) m #[(.ref u0)] below meth c T117 L117 4 48 ∧ Fr n0 L117 ∧ Keep h0 T117.heap [] ∧ CHr Z own_EL s.vm h0 vm117 T117.heap ∧ Exa Z T117.heap scx "java/lang/String" ∧ Fld Z T117.heap scx "java/lang/String" "value" "[B" (.ref tsx) ∧ Fld Z T117.heap scx "java/lang/String" "coder" "B" (.int (0 : Int32)) ∧ Arv Z T117.heap tsx ksx .byte zsx vsx (.int 0) ∧ n0 ≤ T117.heap.size ∧ Exa Z T117.heap u0 "com/example/fastpath/fastpath/settings/RedisServer" ∧ Fld Z T117.heap u0 "com/example/fastpath/fastpath/settings/RedisServer" "tls" "Z" (.int tl) ∧ Fld Z T117.heap u0 "com/example/fastpath/fastpath/settings/RedisServer" "host" "Ljava/lang/String;" (.ref ho) ∧ Fld Z T117.heap u0 "com/example/fastpath/fastpath/settings/RedisServer" "port" "I" (.int po) ∧ Fld Z T117.heap u0 "com/example/fastpath/fastpath/settings/RedisServer" "database" "I" (.int db) ∧ Exa Z T117.heap ho "java/lang/String" ∧ Fld Z T117.heap ho "java/lang/String" "value" "[B" (.ref th) ∧ Fld Z T117.heap ho "java/lang/String" "coder" "B" (.int (0 : Int32)) ∧ Arv Z T117.heap th kh .byte zh vh (.int 0) ∧ Sta Z T117.heap "java/lang/String" "COMPACT_STRINGS" "Z" (.int zC) ∧ Sta Z T117.heap "java/lang/Integer" "DigitOnes" "[B" (.ref dO) ∧ Sta Z T117.heap "java/lang/Integer" "DigitTens" "[B" (.ref dT) ∧ Arv Z T117.heap dO kO .byte (100 : Int32) vO (.int 0) ∧ Arv Z T117.heap dT kT .byte (100 : Int32) vT (.int 0) ∧ kx117 ≤ T117.heap.size ∧ Z.Warmed39 (s.setVm vm117).vm ∧ (s.setVm vm117).vm.findClass "com/example/fastpath/fastpath/settings/RedisServer" = some m.cls ∧ s.Since vm117 kx117 ∧ Exa Z T117.heap lgx "java/lang/String" ∧ Fld Z T117.heap lgx "java/lang/String" "value" "[B" (.ref tgx) ∧ Fld Z T117.heap lgx "java/lang/String" "coder" "B" (.int (0 : Int32)) ∧ Arv Z T117.heap tgx kgx .byte zgx vgx (.int 0) ∧ (own_has vgx (own_lg pw)) ∧ (own_len (own_lg pw) zgx) ∧ x117_S0 = lgx ∧ own_V p e below (s₁.setTop (entryFrame m #[(.ref u0)] 3)) T117 (mkF m 29 #[rv u0, rv scx, .unset] [(.ref x117_S0)]) := by
    rcases hpv with ⟨hp0, rfl⟩ | ⟨hp0, fa_, rfl⟩
    · obtain ⟨T67, X67, e67, st67⟩ := getF X44 hx hZ44 hown44 (host := "") (Or.inl (oG hw 44 rfl)) Via.refl rfl f50 (g := (mkF m 16 #[rv u0, rv scx, .unset] [(.ref u0)])) rfl rfl (oD hby D6 8 rfl)
      have pre68 : own_V p e below _ T67 (mkF m 22 #[rv u0, rv scx, .unset] []) := fun t kt => pre66 t (by
       refine st67 _ ?_
       refine XS.ifnonnullNo X67.here hx rfl (oD hby D6 9 rfl) rfl ?_
       exact kt)
      obtain ⟨a69, T69, h69, kk69, b69, kc69, X69, e69, E69, hS69, hk69, hZ69, hown69, Ea69, Ca69, Va69, Aa69, la69, lb69, CHq69, Lt69, nx69, st69⟩ := ldcCH (vs := []) (z := (0 : Int32)) (show Stand p l e ({ frames := 6, cells := 22, slots := 410, locals := 91 } : Room) (s.setVm vm44) m _ below meth c _ _ _ _ from X67) hx hZ44 hown44 (oG hw 54 rfl) wS e67 hS44 f61 hEL (List.mem_of_getElem? (i := 2) rfl) CH44.1 ⟨by decide, rfl⟩ (by decide) rfl (g := (mkF m 22 #[rv u0, rv scx, .unset] [])) rfl (oD hby D6 10 rfl) (n := 0) (by decide) (by decide) (by decide) (by decide)
      have K69 : Keep h0 h69 [] := K44.ext E69
      have CH70 : CHr Z own_EL s.vm h0 T69.vm h69 := CH44.trans CHq69
      have Qb69 : Exa Z h69 b69 "[B" := own_litB hZ69.alike Aa69 (Classical.byContradiction fun S_ => (nx69 b69 S_).2 rfl)
      have pre71 : own_V p e below _ T69 (mkF m 29 #[rv u0, rv scx, .unset] [(.ref a69)]) := fun t kt => pre68 t (by
       refine st69 _ ?_
       refine XS.goto X69.here hx rfl (pc0 := 24) (pc' := 29) rfl (oD hby D6 11 rfl) (by decide) (by decide) ?_
       exact kt)
      have f72 := (f62.ext E69)
      have f73 := (f63.ext E69)
      have f74 := (f64.ext E69)
      have f75 := (f65.ext E69)
      have f76 := (Nat.le_trans f45 E69.1)
      have f77 := (f46.ext E69)
      have f78 := (f47.ext E69)
      have f79 := (f48.ext E69)
      have f80 := (f49.ext E69)
      have f81 := (f50.ext E69)
      have f82 := (f51.ext E69)
      have f83 := (f52.ext E69)
      have f84 := (f53.ext E69)
      have f85 := (f54.ext E69)
      have f86 := (f55.ext E69)
      have f87 := (f56.ext E69)
      have f88 := (f57.ext E69)
      have f89 := (f58.ext E69)
      have f90 := (f59.ext E69)
      have f91 := (f60.ext E69)
      exact ⟨T69, _, a69, T69.vm, kk69, a69, b69, kc69, (0 : Int32), [], X69.more (by decide) (by decide), N44, (by rw [e69]; exact K69), (by rw [e69]; exact CH70), (by rw [e69]; exact f72), (by rw [e69]; exact f73), (by rw [e69]; exact f74), (by rw [e69]; exact f75), (by rw [e69]; exact f76), (by rw [e69]; exact f77), (by rw [e69]; exact f78), (by rw [e69]; exact f79), (by rw [e69]; exact f80), (by rw [e69]; exact f82), (by rw [e69]; exact f83), (by rw [e69]; exact f84), (by rw [e69]; exact f85), (by rw [e69]; exact f86), (by rw [e69]; exact f87), (by rw [e69]; exact f88), (by rw [e69]; exact f89), (by rw [e69]; exact f90), (by rw [e69]; exact f91), (by rw [e69]; exact hk69), hZ69, hown69, hS69, (by rw [e69]; exact Ea69), (by rw [e69]; exact Va69), (by rw [e69]; exact Ca69), (by rw [e69]; exact Aa69), (by rw [own_lh0 hp0]; exact own_hasL rfl), (by rw [own_lh0 hp0]; unfold own_len; rfl), rfl, pre71⟩
    · obtain ⟨T92, X92, e92, st92⟩ := getF X44 hx hZ44 hown44 (host := "") (Or.inl (oG hw 44 rfl)) Via.refl rfl f50 (g := (mkF m 16 #[rv u0, rv scx, .unset] [(.ref u0)])) rfl rfl (oD hby D6 8 rfl)
      have pre93 : own_V p e below _ T92 (mkF m 27 #[rv u0, rv scx, .unset] []) := fun t kt => pre66 t (by
       refine st92 _ ?_
       refine XS.ifnonnullYes X92.here hx rfl (pc0 := 19) (pc' := 27) rfl (oD hby D6 9 rfl) rfl (by decide) (by decide) ?_
       exact kt)
      obtain ⟨a94, T94, h94, kk94, b94, kc94, X94, e94, E94, hS94, hk94, hZ94, hown94, Ea94, Ca94, Va94, Aa94, la94, lb94, CHq94, Lt94, nx94, st94⟩ := ldcCH (vs := [(.int (42 : Int32)), (.int (42 : Int32)), (.int (42 : Int32)), (.int (64 : Int32))]) (z := (4 : Int32)) (show Stand p l e ({ frames := 6, cells := 22, slots := 410, locals := 91 } : Room) (s.setVm vm44) m _ below meth c _ _ _ _ from X92) hx hZ44 hown44 (oG hw 247 rfl) wS e92 hS44 f61 hEL (List.mem_of_getElem? (i := 3) rfl) CH44.1 ⟨by decide, rfl⟩ (by decide) rfl (g := (mkF m 27 #[rv u0, rv scx, .unset] [])) rfl (oD hby D6 12 rfl) (n := 16) (by decide) (by decide) (by decide) (by decide)
      have K94 : Keep h0 h94 [] := K44.ext E94
      have CH95 : CHr Z own_EL s.vm h0 T94.vm h94 := CH44.trans CHq94
      have Qb94 : Exa Z h94 b94 "[B" := own_litB hZ94.alike Aa94 (Classical.byContradiction fun S_ => (nx94 b94 S_).2 rfl)
      have pre96 : own_V p e below _ T94 (mkF m 29 #[rv u0, rv scx, .unset] [(.ref a94)]) := fun t kt => pre93 t (by
       refine st94 _ ?_
       exact kt)
      have f97 := (f62.ext E94)
      have f98 := (f63.ext E94)
      have f99 := (f64.ext E94)
      have f100 := (f65.ext E94)
      have f101 := (Nat.le_trans f45 E94.1)
      have f102 := (f46.ext E94)
      have f103 := (f47.ext E94)
      have f104 := (f48.ext E94)
      have f105 := (f49.ext E94)
      have f106 := (f50.ext E94)
      have f107 := (f51.ext E94)
      have f108 := (f52.ext E94)
      have f109 := (f53.ext E94)
      have f110 := (f54.ext E94)
      have f111 := (f55.ext E94)
      have f112 := (f56.ext E94)
      have f113 := (f57.ext E94)
      have f114 := (f58.ext E94)
      have f115 := (f59.ext E94)
      have f116 := (f60.ext E94)
      exact ⟨T94, _, a94, T94.vm, kk94, a94, b94, kc94, (4 : Int32), [(.int (42 : Int32)), (.int (42 : Int32)), (.int (42 : Int32)), (.int (64 : Int32))], X94.more (by decide) (by decide), N44, (by rw [e94]; exact K94), (by rw [e94]; exact CH95), (by rw [e94]; exact f97), (by rw [e94]; exact f98), (by rw [e94]; exact f99), (by rw [e94]; exact f100), (by rw [e94]; exact f101), (by rw [e94]; exact f102), (by rw [e94]; exact f103), (by rw [e94]; exact f104), (by rw [e94]; exact f105), (by rw [e94]; exact f107), (by rw [e94]; exact f108), (by rw [e94]; exact f109), (by rw [e94]; exact f110), (by rw [e94]; exact f111), (by rw [e94]; exact f112), (by rw [e94]; exact f113), (by rw [e94]; exact f114), (by rw [e94]; exact f115), (by rw [e94]; exact f116), (by rw [e94]; exact hk94), hZ94, hown94, hS94, (by rw [e94]; exact Ea94), (by rw [e94]; exact Va94), (by rw [e94]; exact Ca94), (by rw [e94]; exact Aa94), (by rw [own_lh1 hp0]; exact own_hasL rfl), (by rw [own_lh1 hp0]; unfold own_len; rfl), rfl, pre96⟩
  obtain ⟨T117, L117, x117_S0, vm117, kx117, lgx, tgx, kgx, zgx, vgx, X117, N117, K117, CH117, f118, f119, f120, f121, f122, f123, f124, f125, f126, f127, f128, f129, f130, f131, f132, f133, f134, f135, f136, f137, hZ117, hown117, hS117, f138, f139, f140, f141, wgh, wgl, mq117_S0, pre117⟩ := Mg117
  rw [mq117_S0] at pre117
  obtain ⟨T142, h142, X142, e142, E142, A142, D142, U142, st142⟩ := newO X117 hx hZ117 hown117 (oG hw 55 rfl) (oG hw 56 rfl) (oG hw 57 rfl) rfl (g := (mkF m 30 #[rv u0, rv scx, rv lgx] [])) rfl (oD hby D6 14 rfl) (by decide) (by decide)
  obtain ⟨b142, g142⟩ : ∃ z, z = T117.heap.size := ⟨_, rfl⟩
  rw [← g142] at A142 D142 U142 st142
  have ne143 : lgx ≠ b142 := Nat.ne_of_lt (Nat.lt_of_lt_of_le f138.lt (Nat.le_of_eq g142.symm))
  have ne144 : tgx ≠ b142 := Nat.ne_of_lt (Nat.lt_of_lt_of_le f141.lt (Nat.le_of_eq g142.symm))
  have ne145 : scx ≠ b142 := Nat.ne_of_lt (Nat.lt_of_lt_of_le f118.lt (Nat.le_of_eq g142.symm))
  have ne146 : tsx ≠ b142 := Nat.ne_of_lt (Nat.lt_of_lt_of_le f121.lt (Nat.le_of_eq g142.symm))
  have ne147 : u0 ≠ b142 := Nat.ne_of_lt (Nat.lt_of_lt_of_le f123.lt (Nat.le_of_eq g142.symm))
  have ne148 : ho ≠ b142 := Nat.ne_of_lt (Nat.lt_of_lt_of_le f128.lt (Nat.le_of_eq g142.symm))
  have ne149 : th ≠ b142 := Nat.ne_of_lt (Nat.lt_of_lt_of_le f131.lt (Nat.le_of_eq g142.symm))
  have ne150 : dO ≠ b142 := Nat.ne_of_lt (Nat.lt_of_lt_of_le f135.lt (Nat.le_of_eq g142.symm))
  have ne151 : dT ≠ b142 := Nat.ne_of_lt (Nat.lt_of_lt_of_le f136.lt (Nat.le_of_eq g142.symm))
  have o142 : n0 ≤ b142 := Nat.le_trans f122 (Nat.le_of_eq g142.symm)
  have z142 : h0.size ≤ b142 := Nat.le_trans K117.1 (Nat.le_of_eq g142.symm)
  have CH152 : CHr Z own_EL s.vm h0 vm117 h142 := CH117.trans (CHr.ext E142 CH117.1)
  have Yb153 : Safe Z own_EL vm117 h142 b142 := Safe.ext E142 CH117.1 (Safe.new (Nat.le_of_eq g142.symm))
  have K142 : Keep h0 h142 [] := K117.ext E142
  have f154 : Fld Z h142 b142 "java/lang/AbstractStringBuilder" "value" "[B" .null := D142 (Or.inl (oG hw 70 rfl)) (ty := (.array .byte)) (by decide)
  have f155 : Fld Z h142 b142 "java/lang/AbstractStringBuilder" "coder" "B" (.int (0 : Int32)) := D142 (Or.inl (oG hw 72 rfl)) (ty := .byte) (by decide)
  have f156 : Fld Z h142 b142 "java/lang/AbstractStringBuilder" "count" "I" (.int (0 : Int32)) := D142 (Or.inl (oG hw 95 rfl)) (ty := .int) (by decide)
  have pre157 : own_V p e below _ T142 (mkF m 34 #[rv u0, rv scx, rv lgx] [(.ref b142), (.ref b142)]) := fun t kt => pre117 t (by
   refine XS.astoreN X117.here hx rfl (oD hby D6 13 rfl) rfl rfl rfl ?_
   refine st142 _ ?_
   refine XS.dup X142.here hx rfl (oD hby D6 15 rfl) rfl rfl ?_
   exact kt)
  have f158 := (f132.ext E142)
  have f159 := (Nat.le_trans f122 E142.1)
  obtain ⟨_, T160, L160, X160, hQ160, st160⟩ := own_cI X142 hx rfl hown117 hZ117 (oG hw 58 rfl) (oG hw 59 rfl) (oG hw 57 rfl) (oG hw 60 rfl) (by decide) (rmBI l Z a0 hw [] b142 zC h142 n0 f159 A142 f154 f155 f156 f158 hz o142) (W := 1) (by decide) (by decide) (g := (mkF m 34 #[rv u0, rv scx, rv lgx] [(.ref b142), (.ref b142)])) rfl (by rw [hml]; rfl) (a := b142) (argsL := []) (rest := [(.ref b142)]) (lenOf pd26 rfl) rfl (own_ww rfl) (oD hby D6 16 rfl) e142 rfl (by decide) (by decide)
  have f161 := (f138.ext E142)
  have f162 := (f141.ext E142)
  have f163 := (f118.ext E142)
  have f164 := (f121.ext E142)
  have f165 := (f123.ext E142)
  have f166 := (f128.ext E142)
  have f167 := (f131.ext E142)
  have f168 := (f135.ext E142)
  have f169 := (f136.ext E142)
  obtain ⟨bv_160, kb_160, bs_160, rfl, N160q, K160, sx160_0, f170, f171, f172, f173, f174, f175, f176⟩ := hQ160
  have obv_160 : n0 ≤ bv_160 := Nat.le_trans f159 sx160_0
  have zbv_160 : h0.size ≤ bv_160 := Nat.le_trans K142.1 sx160_0
  have ne177 : lgx ≠ bv_160 := Nat.ne_of_lt (Nat.lt_of_lt_of_le f161.lt sx160_0)
  have ne178 : tgx ≠ bv_160 := Nat.ne_of_lt (Nat.lt_of_lt_of_le f162.lt sx160_0)
  have ne179 : scx ≠ bv_160 := Nat.ne_of_lt (Nat.lt_of_lt_of_le f163.lt sx160_0)
  have ne180 : tsx ≠ bv_160 := Nat.ne_of_lt (Nat.lt_of_lt_of_le f164.lt sx160_0)
  have ne181 : u0 ≠ bv_160 := Nat.ne_of_lt (Nat.lt_of_lt_of_le f165.lt sx160_0)
  have ne182 : ho ≠ bv_160 := Nat.ne_of_lt (Nat.lt_of_lt_of_le f166.lt sx160_0)
  have ne183 : th ≠ bv_160 := Nat.ne_of_lt (Nat.lt_of_lt_of_le f167.lt sx160_0)
  have ne184 : dO ≠ bv_160 := Nat.ne_of_lt (Nat.lt_of_lt_of_le f168.lt sx160_0)
  have ne185 : dT ≠ bv_160 := Nat.ne_of_lt (Nat.lt_of_lt_of_le f169.lt sx160_0)
  have ne186 : b142 ≠ bv_160 := Nat.ne_of_lt (Nat.lt_of_lt_of_le A142.lt sx160_0)
  have Yn187 : Safe Z own_EL vm117 h142 bv_160 := Safe.new sx160_0
  have KK160 : Keep h0 T160.heap [] := Keep.trans K142 K160 (allS (Or.inr z142) all0)
  have CH188 : CHr Z own_EL s.vm h0 vm117 T160.heap := CH152.trans (CHr.keep K160 (sfS Yb153 sf0) CH152.1)
  have N160 := Fr.app N117 N160q
  have pre189 : own_V p e below _ T160 (mkF m 38 #[rv u0, rv scx, rv lgx] [(.ref scx), (.ref b142)]) := fun t kt => pre157 t (by
   refine st160 _ ?_
   refine XS.aloadN X160.here hx rfl (oD hby D6 17 rfl) rfl rfl ?_
   exact kt)
  have f190 := (f163.keep K160)
  have f191 := ((f119.ext E142).keep K160 (ninS ne145 nin0))
  have f192 := ((f120.ext E142).keep K160 (ninS ne145 nin0))
  have f193 := (f164.keep K160 (ninS ne146 nin0))
  have f194 := (own_staKeep f158 K160 (nsS A142.nostat ns0))
  have f195 := (Nat.le_trans f159 K160.1)
  obtain ⟨_, T196, L196, X196, hQ196, st196⟩ := own_cV X160 hx hown117 hZ117 (oG hw 73 rfl) (oG hw 74 rfl) (oG hw 76 rfl) (oG hw 75 rfl) (oG hw 57 rfl) (oG hw 77 rfl) (by decide) (rmBp l Z a0 hw [] b142 scx tsx ksx zsx vsx bv_160 kb_160 (16 : Int32) bs_160 (0 : Int32) ([] : List Int32) (own_sch tl) zC T160.heap n0 f195 f170 f171 f172 f173 f174 f175 f190 f191 f192 f193 ne146 ne180 ne145 ne179 (Ne.symm ne186) f194 hz own_in0 own_len0 wsl (by have a1 := own_schl tl; have a4 := own_lgl pw; have a2 := own_dl5 h5; have a3 := own_dl10 db; simp only [List.length_append, List.length_cons, List.length_nil]; omega) f176 (own_has0 _) wsh o142 obv_160) (W := 0) (by decide) (by decide) f170 (g := (mkF m 38 #[rv u0, rv scx, rv lgx] [(.ref scx), (.ref b142)])) rfl (by rw [hml]; rfl) (argsL := [(.ref scx)]) (rest := []) (lenOf pd29 rfl) rfl (own_ww rfl) (oD hby D6 18 rfl) rfl rfl (by decide) (by decide)
  have f197 := (f161.keep K160)
  have f198 := (f162.keep K160 (ninS ne144 nin0))
  have f199 := (f165.keep K160)
  have f200 := (f166.keep K160)
  have f201 := (f167.keep K160 (ninS ne149 nin0))
  have f202 := (f168.keep K160 (ninS ne150 nin0))
  have f203 := (f169.keep K160 (ninS ne151 nin0))
  have f204 : Safe Z own_EL vm117 T160.heap bv_160 := (Safe.keep K160 (sfS Yb153 sf0) CH152.1 Yn187)
  have f205 : Safe Z own_EL vm117 T160.heap b142 := (Safe.keep K160 (sfS Yb153 sf0) CH152.1 Yb153)
  obtain ⟨t2_196, k2_196, cap2_196, b2_196, cn2_196, rfl, N196q, K196, f206, f207, f208, f209, f210, f211, f212, f213, f214⟩ := hQ196
  have KK196 : Keep h0 T196.heap [] := Keep.trans KK160 K196 (allS (Or.inr z142) (allS (Or.inr zbv_160) all0))
  have CH215 : CHr Z own_EL s.vm h0 vm117 T196.heap := CH188.trans (CHr.keep K196 (sfS f205 (sfS f204 sf0)) CH188.1)
  have N196 := Fr.app N160 N196q
  have oq216 : n0 ≤ t2_196 := own_orc f214 obv_160 (fun e_ => Nat.le_trans f195 e_)
  have zq216 : h0.size ≤ t2_196 := own_orc f214 zbv_160 (fun e_ => Nat.le_trans KK160.1 e_)
  have nq217 : lgx ≠ t2_196 := own_orn f214 ne177 (fun e_ => Nat.ne_of_lt (Nat.lt_of_lt_of_le f197.lt e_))
  have nq218 : tgx ≠ t2_196 := own_orn f214 ne178 (fun e_ => Nat.ne_of_lt (Nat.lt_of_lt_of_le f198.lt e_))
  have nq219 : scx ≠ t2_196 := own_orn f214 ne179 (fun e_ => Nat.ne_of_lt (Nat.lt_of_lt_of_le f190.lt e_))
  have nq220 : tsx ≠ t2_196 := own_orn f214 ne180 (fun e_ => Nat.ne_of_lt (Nat.lt_of_lt_of_le f193.lt e_))
  have nq221 : u0 ≠ t2_196 := own_orn f214 ne181 (fun e_ => Nat.ne_of_lt (Nat.lt_of_lt_of_le f199.lt e_))
  have nq222 : ho ≠ t2_196 := own_orn f214 ne182 (fun e_ => Nat.ne_of_lt (Nat.lt_of_lt_of_le f200.lt e_))
  have nq223 : th ≠ t2_196 := own_orn f214 ne183 (fun e_ => Nat.ne_of_lt (Nat.lt_of_lt_of_le f201.lt e_))
  have nq224 : dO ≠ t2_196 := own_orn f214 ne184 (fun e_ => Nat.ne_of_lt (Nat.lt_of_lt_of_le f202.lt e_))
  have nq225 : dT ≠ t2_196 := own_orn f214 ne185 (fun e_ => Nat.ne_of_lt (Nat.lt_of_lt_of_le f203.lt e_))
  have nq226 : b142 ≠ t2_196 := own_orn f214 ne186 (fun e_ => Nat.ne_of_lt (Nat.lt_of_lt_of_le f170.lt e_))
  have Yq227 : Safe Z own_EL vm117 T160.heap t2_196 := own_ors f214 f204 (fun e_ => Safe.new e_)
  have pre228 : own_V p e below _ T196 (mkF m 41 #[rv u0, rv scx, rv lgx] [(.ref b142)]) := fun t kt => pre189 t (by
   refine st196 _ ?_
   exact kt)
  have f229 := (Nat.le_trans (Nat.le_trans (Nat.le_trans f137 E142.1) K160.1) K196.1)
  have f230 : Safe Z own_EL vm117 T196.heap b142 := (Safe.keep K196 (sfS f205 (sfS f204 sf0)) CH188.1 f205)
  have f231 : Safe Z own_EL vm117 T196.heap t2_196 := (Safe.keep K196 (sfS f205 (sfS f204 sf0)) CH188.1 Yq227)
  obtain ⟨a232, T232, h232, kk232, b232, kc232, X232, e232, E232, hS232, hk232, hZ232, hown232, Ea232, Ca232, Va232, Aa232, la232, lb232, CHq232, Lt232, nx232, st232⟩ := ldcCH (vs := [(.int (58 : Int32)), (.int (47 : Int32)), (.int (47 : Int32))]) (z := (3 : Int32)) (show Stand p l e ({ frames := 6, cells := 22, slots := 410, locals := 91 } : Room) (s.setVm vm117) m _ below meth c _ _ _ _ from X196) hx hZ117 hown117 (oG hw 121 rfl) wS rfl hS117 f229 hEL (List.mem_of_getElem? (i := 4) rfl) CH215.1 ⟨by decide, rfl⟩ (by decide) rfl (g := (mkF m 41 #[rv u0, rv scx, rv lgx] [(.ref b142)])) rfl (oD hby D6 19 rfl) (n := 12) (by decide) (by decide) (by decide) (by decide)
  have K232 : Keep h0 h232 [] := KK196.ext E232
  have CH233 : CHr Z own_EL s.vm h0 T232.vm h232 := CH215.trans CHq232
  have Yr234 : Safe Z own_EL T232.vm h232 b142 := CHr.safe CHq232 f206.lt f230
  have Yr235 : Safe Z own_EL T232.vm h232 t2_196 := CHr.safe CHq232 f210.lt f231
  have Qb232 : Exa Z h232 b232 "[B" := own_litB hZ232.alike Aa232 (Classical.byContradiction fun S_ => (nx232 b232 S_).2 rfl)
  have pre236 : own_V p e below _ T232 (mkF m 43 #[rv u0, rv scx, rv lgx] [(.ref a232), (.ref b142)]) := fun t kt => pre228 t (by
   refine st232 _ ?_
   exact kt)
  have f237 := (f206.ext E232)
  have f238 := (f207.ext E232)
  have f239 := (f208.ext E232)
  have f240 := (f209.ext E232)
  have f241 := (f210.ext E232)
  have f242 := (f211.ext E232)
  have f243 := ((own_staKeep f194 K196 (nsS f170.nostat (nsS f174.nostat ns0))).ext E232)
  have f244 := (Nat.le_trans (Nat.le_trans f195 K196.1) E232.1)
  obtain ⟨_, T245, L245, X245, hQ245, st245⟩ := own_cV X232 hx hown232 hZ232 (oG hw 73 rfl) (oG hw 74 rfl) (oG hw 76 rfl) (oG hw 75 rfl) (oG hw 57 rfl) (oG hw 77 rfl) (by decide) (rmBp l Z a0 hw [] b142 a232 b232 kc232 (3 : Int32) [(.int (58 : Int32)), (.int (47 : Int32)), (.int (47 : Int32))] t2_196 k2_196 cap2_196 b2_196 cn2_196 (([] : List Int32) ++ (own_sch tl)) ([58, 47, 47] : List Int32) zC h232 n0 f244 f237 f238 f239 f240 f241 f242 Ea232 Va232 Ca232 Aa232 (Ne.symm (nx232 b142 Yr234).2) (Ne.symm (nx232 t2_196 Yr235).2) (Ne.symm (nx232 b142 Yr234).1) (Ne.symm (nx232 t2_196 Yr235).1) (Ne.symm nq226) f243 hz f213.2 f213.1 (by unfold own_len; rfl) (by have a1 := own_schl tl; have a4 := own_lgl pw; have a2 := own_dl5 h5; have a3 := own_dl10 db; simp only [List.length_append, List.length_cons, List.length_nil]; omega) f212.2 f212.1 (own_hasL rfl) o142 oq216) (W := 0) (by decide) (by decide) f237 (g := (mkF m 43 #[rv u0, rv scx, rv lgx] [(.ref a232), (.ref b142)])) rfl (by rw [hml]; rfl) (argsL := [(.ref a232)]) (rest := []) (lenOf pd29 rfl) rfl (own_ww rfl) (oD hby D6 20 rfl) e232 rfl (by decide) (by decide)
  have f246 := ((f197.keep K196).ext E232)
  have f247 := ((f198.keep K196 (ninS ne144 (ninS ne178 nin0))).ext E232)
  have f248 := ((f190.keep K196).ext E232)
  have f249 := ((f193.keep K196 (ninS ne146 (ninS ne180 nin0))).ext E232)
  have f250 := ((f199.keep K196).ext E232)
  have f251 := ((f200.keep K196).ext E232)
  have f252 := ((f201.keep K196 (ninS ne149 (ninS ne183 nin0))).ext E232)
  have f253 := ((f202.keep K196 (ninS ne150 (ninS ne184 nin0))).ext E232)
  have f254 := ((f203.keep K196 (ninS ne151 (ninS ne185 nin0))).ext E232)
  obtain ⟨t2_245, k2_245, cap2_245, b2_245, cn2_245, rfl, N245q, K245, f255, f256, f257, f258, f259, f260, f261, f262, f263⟩ := hQ245
  have KK245 : Keep h0 T245.heap [] := Keep.trans K232 K245 (allS (Or.inr z142) (allS (Or.inr zq216) all0))
  have CH264 : CHr Z own_EL s.vm h0 T232.vm T245.heap := CH233.trans (CHr.keep K245 (sfS Yr234 (sfS Yr235 sf0)) CH233.1)
  have N245 := Fr.app N196 N245q
  have oq265 : n0 ≤ t2_245 := own_orc f263 oq216 (fun e_ => Nat.le_trans f244 e_)
  have zq265 : h0.size ≤ t2_245 := own_orc f263 zq216 (fun e_ => Nat.le_trans K232.1 e_)
  have nq266 : lgx ≠ t2_245 := own_orn f263 nq217 (fun e_ => Nat.ne_of_lt (Nat.lt_of_lt_of_le f246.lt e_))
  have nq267 : tgx ≠ t2_245 := own_orn f263 nq218 (fun e_ => Nat.ne_of_lt (Nat.lt_of_lt_of_le f247.lt e_))
  have nq268 : scx ≠ t2_245 := own_orn f263 nq219 (fun e_ => Nat.ne_of_lt (Nat.lt_of_lt_of_le f248.lt e_))
  have nq269 : tsx ≠ t2_245 := own_orn f263 nq220 (fun e_ => Nat.ne_of_lt (Nat.lt_of_lt_of_le f249.lt e_))
  have nq270 : u0 ≠ t2_245 := own_orn f263 nq221 (fun e_ => Nat.ne_of_lt (Nat.lt_of_lt_of_le f250.lt e_))
  have nq271 : ho ≠ t2_245 := own_orn f263 nq222 (fun e_ => Nat.ne_of_lt (Nat.lt_of_lt_of_le f251.lt e_))
  have nq272 : th ≠ t2_245 := own_orn f263 nq223 (fun e_ => Nat.ne_of_lt (Nat.lt_of_lt_of_le f252.lt e_))
  have nq273 : dO ≠ t2_245 := own_orn f263 nq224 (fun e_ => Nat.ne_of_lt (Nat.lt_of_lt_of_le f253.lt e_))
  have nq274 : dT ≠ t2_245 := own_orn f263 nq225 (fun e_ => Nat.ne_of_lt (Nat.lt_of_lt_of_le f254.lt e_))
  have nq275 : b142 ≠ t2_245 := own_orn f263 nq226 (fun e_ => Nat.ne_of_lt (Nat.lt_of_lt_of_le f237.lt e_))
  have nq276 : a232 ≠ t2_245 := own_orn f263 (Ne.symm (nx232 t2_196 Yr235).1) (fun e_ => Nat.ne_of_lt (Nat.lt_of_lt_of_le Ea232.lt e_))
  have nq277 : b232 ≠ t2_245 := own_orn f263 (Ne.symm (nx232 t2_196 Yr235).2) (fun e_ => Nat.ne_of_lt (Nat.lt_of_lt_of_le Aa232.lt e_))
  have Yq278 : Safe Z own_EL T232.vm h232 t2_245 := own_ors f263 Yr235 (fun e_ => Safe.new e_)
  have pre279 : own_V p e below _ T245 (mkF m 47 #[rv u0, rv scx, rv lgx] [(.ref lgx), (.ref b142)]) := fun t kt => pre236 t (by
   refine st245 _ ?_
   refine XS.aloadN X245.here hx rfl (oD hby D6 21 rfl) rfl rfl ?_
   exact kt)
  have f280 := (f246.keep K245)
  have f281 := (((((f139.ext E142).keep K160 (ninS ne143 nin0)).keep K196 (ninS ne143 (ninS ne177 nin0))).ext E232).keep K245 (ninS ne143 (ninS nq217 nin0)))
  have f282 := (((((f140.ext E142).keep K160 (ninS ne143 nin0)).keep K196 (ninS ne143 (ninS ne177 nin0))).ext E232).keep K245 (ninS ne143 (ninS nq217 nin0)))
  have f283 := (f247.keep K245 (ninS ne144 (ninS nq218 nin0)))
  have f284 := (own_staKeep f243 K245 (nsS f237.nostat (nsS f241.nostat ns0)))
  have f285 := (Nat.le_trans f244 K245.1)
  obtain ⟨_, T286, L286, X286, hQ286, st286⟩ := own_cV X245 hx hown232 hZ232 (oG hw 73 rfl) (oG hw 74 rfl) (oG hw 76 rfl) (oG hw 75 rfl) (oG hw 57 rfl) (oG hw 77 rfl) (by decide) (rmBp l Z a0 hw [] b142 lgx tgx kgx zgx vgx t2_245 k2_245 cap2_245 b2_245 cn2_245 ((([] : List Int32) ++ (own_sch tl)) ++ ([58, 47, 47] : List Int32)) (own_lg pw) zC T245.heap n0 f285 f255 f256 f257 f258 f259 f260 f280 f281 f282 f283 ne144 nq267 ne143 nq266 (Ne.symm nq275) f284 hz f262.2 f262.1 wgl (by have a1 := own_schl tl; have a4 := own_lgl pw; have a2 := own_dl5 h5; have a3 := own_dl10 db; simp only [List.length_append, List.length_cons, List.length_nil]; omega) f261.2 f261.1 wgh o142 oq265) (W := 0) (by decide) (by decide) f255 (g := (mkF m 47 #[rv u0, rv scx, rv lgx] [(.ref lgx), (.ref b142)])) rfl (by rw [hml]; rfl) (argsL := [(.ref lgx)]) (rest := []) (lenOf pd29 rfl) rfl (own_ww rfl) (oD hby D6 22 rfl) rfl rfl (by decide) (by decide)
  have f287 := (f248.keep K245)
  have f288 := (f249.keep K245 (ninS ne146 (ninS nq220 nin0)))
  have f289 := (f250.keep K245)
  have f290 := (f251.keep K245)
  have f291 := (f252.keep K245 (ninS ne149 (ninS nq223 nin0)))
  have f292 := (f253.keep K245 (ninS ne150 (ninS nq224 nin0)))
  have f293 := (f254.keep K245 (ninS ne151 (ninS nq225 nin0)))
  have f294 := (Ea232.keep K245)
  have f295 := (Aa232.keep K245 (ninS (Ne.symm (nx232 b142 Yr234).2) (ninS (Ne.symm (nx232 t2_196 Yr235).2) nin0)))
  have f296 : Safe Z own_EL T232.vm T245.heap t2_245 := (Safe.keep K245 (sfS Yr234 (sfS Yr235 sf0)) CH233.1 Yq278)
  have f297 : Safe Z own_EL T232.vm T245.heap b142 := (Safe.keep K245 (sfS Yr234 (sfS Yr235 sf0)) CH233.1 Yr234)
  obtain ⟨t2_286, k2_286, cap2_286, b2_286, cn2_286, rfl, N286q, K286, f298, f299, f300, f301, f302, f303, f304, f305, f306⟩ := hQ286
  have KK286 : Keep h0 T286.heap [] := Keep.trans KK245 K286 (allS (Or.inr z142) (allS (Or.inr zq265) all0))
  have CH307 : CHr Z own_EL s.vm h0 T232.vm T286.heap := CH264.trans (CHr.keep K286 (sfS f297 (sfS f296 sf0)) CH264.1)
  have N286 := Fr.app N245 N286q
  have oq308 : n0 ≤ t2_286 := own_orc f306 oq265 (fun e_ => Nat.le_trans f285 e_)
  have zq308 : h0.size ≤ t2_286 := own_orc f306 zq265 (fun e_ => Nat.le_trans KK245.1 e_)
  have nq309 : lgx ≠ t2_286 := own_orn f306 nq266 (fun e_ => Nat.ne_of_lt (Nat.lt_of_lt_of_le f280.lt e_))
  have nq310 : tgx ≠ t2_286 := own_orn f306 nq267 (fun e_ => Nat.ne_of_lt (Nat.lt_of_lt_of_le f283.lt e_))
  have nq311 : scx ≠ t2_286 := own_orn f306 nq268 (fun e_ => Nat.ne_of_lt (Nat.lt_of_lt_of_le f287.lt e_))
  have nq312 : tsx ≠ t2_286 := own_orn f306 nq269 (fun e_ => Nat.ne_of_lt (Nat.lt_of_lt_of_le f288.lt e_))
  have nq313 : u0 ≠ t2_286 := own_orn f306 nq270 (fun e_ => Nat.ne_of_lt (Nat.lt_of_lt_of_le f289.lt e_))
  have nq314 : ho ≠ t2_286 := own_orn f306 nq271 (fun e_ => Nat.ne_of_lt (Nat.lt_of_lt_of_le f290.lt e_))
  have nq315 : th ≠ t2_286 := own_orn f306 nq272 (fun e_ => Nat.ne_of_lt (Nat.lt_of_lt_of_le f291.lt e_))
  have nq316 : dO ≠ t2_286 := own_orn f306 nq273 (fun e_ => Nat.ne_of_lt (Nat.lt_of_lt_of_le f292.lt e_))
  have nq317 : dT ≠ t2_286 := own_orn f306 nq274 (fun e_ => Nat.ne_of_lt (Nat.lt_of_lt_of_le f293.lt e_))
  have nq318 : b142 ≠ t2_286 := own_orn f306 nq275 (fun e_ => Nat.ne_of_lt (Nat.lt_of_lt_of_le f255.lt e_))
  have nq319 : a232 ≠ t2_286 := own_orn f306 nq276 (fun e_ => Nat.ne_of_lt (Nat.lt_of_lt_of_le f294.lt e_))
  have nq320 : b232 ≠ t2_286 := own_orn f306 nq277 (fun e_ => Nat.ne_of_lt (Nat.lt_of_lt_of_le f295.lt e_))
  have Yq321 : Safe Z own_EL T232.vm T245.heap t2_286 := own_ors f306 f296 (fun e_ => Safe.new e_)
  have f322 := ((((((f125.ext E142).keep K160 (ninS ne147 nin0)).keep K196 (ninS ne147 (ninS ne181 nin0))).ext E232).keep K245 (ninS ne147 (ninS nq221 nin0))).keep K286 (ninS ne147 (ninS nq270 nin0)))
  obtain ⟨T323, X323, e323, st323⟩ := getF X286 hx hZ232 hown232 (host := "") (Or.inl (oG hw 38 rfl)) Via.refl rfl f322 (g := (mkF m 51 #[rv u0, rv scx, rv lgx] [(.ref u0), (.ref b142)])) rfl rfl (oD hby D6 24 rfl)
  have pre324 : own_V p e below _ T323 (mkF m 54 #[rv u0, rv scx, rv lgx] [(.ref ho), (.ref b142)]) := fun t kt => pre279 t (by
   refine st286 _ ?_
   refine XS.aloadN X286.here hx rfl (oD hby D6 23 rfl) rfl rfl ?_
   show Steps _ _ _ (T286.setTop (mkF m 51 #[rv u0, rv scx, rv lgx] [(.ref u0), (.ref b142)])) _
   refine st323 _ ?_
   exact kt)
  have f325 := (f290.keep K286)
  have f326 := ((((((f129.ext E142).keep K160 (ninS ne148 nin0)).keep K196 (ninS ne148 (ninS ne182 nin0))).ext E232).keep K245 (ninS ne148 (ninS nq222 nin0))).keep K286 (ninS ne148 (ninS nq271 nin0)))
  have f327 := ((((((f130.ext E142).keep K160 (ninS ne148 nin0)).keep K196 (ninS ne148 (ninS ne182 nin0))).ext E232).keep K245 (ninS ne148 (ninS nq222 nin0))).keep K286 (ninS ne148 (ninS nq271 nin0)))
  have f328 := (f291.keep K286 (ninS ne149 (ninS nq272 nin0)))
  have f329 := (own_staKeep f284 K286 (nsS f255.nostat (nsS f259.nostat ns0)))
  have f330 := (Nat.le_trans f285 K286.1)
  obtain ⟨_, T331, L331, X331, hQ331, st331⟩ := own_cV X323 hx hown232 hZ232 (oG hw 73 rfl) (oG hw 74 rfl) (oG hw 76 rfl) (oG hw 75 rfl) (oG hw 57 rfl) (oG hw 77 rfl) (by decide) (rmBp l Z a0 hw [] b142 ho th kh zh vh t2_286 k2_286 cap2_286 b2_286 cn2_286 (((([] : List Int32) ++ (own_sch tl)) ++ ([58, 47, 47] : List Int32)) ++ own_lg pw) xh zC T286.heap n0 f330 f298 f299 f300 f301 f302 f303 f325 f326 f327 f328 ne149 nq315 ne148 nq314 (Ne.symm nq318) f329 hz f305.2 f305.1 wnh (by have a1 := own_schl tl; have a4 := own_lgl pw; have a2 := own_dl5 h5; have a3 := own_dl10 db; simp only [List.length_append, List.length_cons, List.length_nil]; omega) f304.2 f304.1 whh o142 oq308) (W := 0) (by decide) (by decide) f298 (g := (mkF m 54 #[rv u0, rv scx, rv lgx] [(.ref ho), (.ref b142)])) rfl (by rw [hml]; rfl) (argsL := [(.ref ho)]) (rest := []) (lenOf pd29 rfl) rfl (own_ww rfl) (oD hby D6 25 rfl) e323 rfl (by decide) (by decide)
  have f332 := (f280.keep K286)
  have f333 := (f283.keep K286 (ninS ne144 (ninS nq267 nin0)))
  have f334 := (f287.keep K286)
  have f335 := (f288.keep K286 (ninS ne146 (ninS nq269 nin0)))
  have f336 := (f289.keep K286)
  have f337 := (f292.keep K286 (ninS ne150 (ninS nq273 nin0)))
  have f338 := (f293.keep K286 (ninS ne151 (ninS nq274 nin0)))
  have f339 := (f294.keep K286)
  have f340 := (f295.keep K286 (ninS (Ne.symm (nx232 b142 Yr234).2) (ninS nq277 nin0)))
  have f341 : Safe Z own_EL T232.vm T286.heap t2_286 := (Safe.keep K286 (sfS f297 (sfS f296 sf0)) CH264.1 Yq321)
  have f342 : Safe Z own_EL T232.vm T286.heap b142 := (Safe.keep K286 (sfS f297 (sfS f296 sf0)) CH264.1 f297)
  obtain ⟨t2_331, k2_331, cap2_331, b2_331, cn2_331, rfl, N331q, K331, f343, f344, f345, f346, f347, f348, f349, f350, f351⟩ := hQ331
  have KK331 : Keep h0 T331.heap [] := Keep.trans KK286 K331 (allS (Or.inr z142) (allS (Or.inr zq308) all0))
  have CH352 : CHr Z own_EL s.vm h0 T232.vm T331.heap := CH307.trans (CHr.keep K331 (sfS f342 (sfS f341 sf0)) CH307.1)
  have N331 := Fr.app N286 N331q
  have oq353 : n0 ≤ t2_331 := own_orc f351 oq308 (fun e_ => Nat.le_trans f330 e_)
  have zq353 : h0.size ≤ t2_331 := own_orc f351 zq308 (fun e_ => Nat.le_trans KK286.1 e_)
  have nq354 : lgx ≠ t2_331 := own_orn f351 nq309 (fun e_ => Nat.ne_of_lt (Nat.lt_of_lt_of_le f332.lt e_))
  have nq355 : tgx ≠ t2_331 := own_orn f351 nq310 (fun e_ => Nat.ne_of_lt (Nat.lt_of_lt_of_le f333.lt e_))
  have nq356 : scx ≠ t2_331 := own_orn f351 nq311 (fun e_ => Nat.ne_of_lt (Nat.lt_of_lt_of_le f334.lt e_))
  have nq357 : tsx ≠ t2_331 := own_orn f351 nq312 (fun e_ => Nat.ne_of_lt (Nat.lt_of_lt_of_le f335.lt e_))
  have nq358 : u0 ≠ t2_331 := own_orn f351 nq313 (fun e_ => Nat.ne_of_lt (Nat.lt_of_lt_of_le f336.lt e_))
  have nq359 : ho ≠ t2_331 := own_orn f351 nq314 (fun e_ => Nat.ne_of_lt (Nat.lt_of_lt_of_le f325.lt e_))
  have nq360 : th ≠ t2_331 := own_orn f351 nq315 (fun e_ => Nat.ne_of_lt (Nat.lt_of_lt_of_le f328.lt e_))
  have nq361 : dO ≠ t2_331 := own_orn f351 nq316 (fun e_ => Nat.ne_of_lt (Nat.lt_of_lt_of_le f337.lt e_))
  have nq362 : dT ≠ t2_331 := own_orn f351 nq317 (fun e_ => Nat.ne_of_lt (Nat.lt_of_lt_of_le f338.lt e_))
  have nq363 : b142 ≠ t2_331 := own_orn f351 nq318 (fun e_ => Nat.ne_of_lt (Nat.lt_of_lt_of_le f298.lt e_))
  have nq364 : a232 ≠ t2_331 := own_orn f351 nq319 (fun e_ => Nat.ne_of_lt (Nat.lt_of_lt_of_le f339.lt e_))
  have nq365 : b232 ≠ t2_331 := own_orn f351 nq320 (fun e_ => Nat.ne_of_lt (Nat.lt_of_lt_of_le f340.lt e_))
  have Yq366 : Safe Z own_EL T232.vm T286.heap t2_331 := own_ors f351 f341 (fun e_ => Safe.new e_)
  have pre367 : own_V p e below _ T331 (mkF m 57 #[rv u0, rv scx, rv lgx] [(.ref b142)]) := fun t kt => pre324 t (by
   refine st331 _ ?_
   exact kt)
  have f368 := (Nat.le_trans (Nat.le_trans (Nat.le_trans hk232 K245.1) K286.1) K331.1)
  have f369 : Safe Z own_EL T232.vm T331.heap b142 := (Safe.keep K331 (sfS f342 (sfS f341 sf0)) CH307.1 f342)
  have f370 : Safe Z own_EL T232.vm T331.heap t2_331 := (Safe.keep K331 (sfS f342 (sfS f341 sf0)) CH307.1 Yq366)
  obtain ⟨a371, T371, h371, kk371, b371, kc371, X371, e371, E371, hS371, hk371, hZ371, hown371, Ea371, Ca371, Va371, Aa371, la371, lb371, CHq371, Lt371, nx371, st371⟩ := ldcCH (vs := [(.int (58 : Int32))]) (z := (1 : Int32)) (show Stand p l e ({ frames := 6, cells := 22, slots := 410, locals := 91 } : Room) (s.setVm T232.vm) m _ below meth c _ _ _ _ from X331) hx hZ232 hown232 (oG hw 122 rfl) wS rfl hS232 f368 hEL (List.mem_of_getElem? (i := 5) rfl) CH352.1 ⟨by decide, rfl⟩ (by decide) rfl (g := (mkF m 57 #[rv u0, rv scx, rv lgx] [(.ref b142)])) rfl (oD hby D6 26 rfl) (n := 4) (by decide) (by decide) (by decide) (by decide)
  have K371 : Keep h0 h371 [] := KK331.ext E371
  have CH372 : CHr Z own_EL s.vm h0 T371.vm h371 := CH352.trans CHq371
  have Yr373 : Safe Z own_EL T371.vm h371 b142 := CHr.safe CHq371 f343.lt f369
  have Yr374 : Safe Z own_EL T371.vm h371 t2_331 := CHr.safe CHq371 f347.lt f370
  have Qb371 : Exa Z h371 b371 "[B" := own_litB hZ371.alike Aa371 (Classical.byContradiction fun S_ => (nx371 b371 S_).2 rfl)
  have pre375 : own_V p e below _ T371 (mkF m 59 #[rv u0, rv scx, rv lgx] [(.ref a371), (.ref b142)]) := fun t kt => pre367 t (by
   refine st371 _ ?_
   exact kt)
  have f376 := (f343.ext E371)
  have f377 := (f344.ext E371)
  have f378 := (f345.ext E371)
  have f379 := (f346.ext E371)
  have f380 := (f347.ext E371)
  have f381 := (f348.ext E371)
  have f382 := ((own_staKeep f329 K331 (nsS f298.nostat (nsS f302.nostat ns0))).ext E371)
  have f383 := (Nat.le_trans (Nat.le_trans f330 K331.1) E371.1)
  obtain ⟨_, T384, L384, X384, hQ384, st384⟩ := own_cV X371 hx hown371 hZ371 (oG hw 73 rfl) (oG hw 74 rfl) (oG hw 76 rfl) (oG hw 75 rfl) (oG hw 57 rfl) (oG hw 77 rfl) (by decide) (rmBp l Z a0 hw [] b142 a371 b371 kc371 (1 : Int32) [(.int (58 : Int32))] t2_331 k2_331 cap2_331 b2_331 cn2_331 ((((([] : List Int32) ++ (own_sch tl)) ++ ([58, 47, 47] : List Int32)) ++ own_lg pw) ++ xh) ([58] : List Int32) zC h371 n0 f383 f376 f377 f378 f379 f380 f381 Ea371 Va371 Ca371 Aa371 (Ne.symm (nx371 b142 Yr373).2) (Ne.symm (nx371 t2_331 Yr374).2) (Ne.symm (nx371 b142 Yr373).1) (Ne.symm (nx371 t2_331 Yr374).1) (Ne.symm nq363) f382 hz f350.2 f350.1 (by unfold own_len; rfl) (by have a1 := own_schl tl; have a4 := own_lgl pw; have a2 := own_dl5 h5; have a3 := own_dl10 db; simp only [List.length_append, List.length_cons, List.length_nil]; omega) f349.2 f349.1 (own_hasL rfl) o142 oq353) (W := 0) (by decide) (by decide) f376 (g := (mkF m 59 #[rv u0, rv scx, rv lgx] [(.ref a371), (.ref b142)])) rfl (by rw [hml]; rfl) (argsL := [(.ref a371)]) (rest := []) (lenOf pd29 rfl) rfl (own_ww rfl) (oD hby D6 27 rfl) e371 rfl (by decide) (by decide)
  have f385 := ((f332.keep K331).ext E371)
  have f386 := ((f333.keep K331 (ninS ne144 (ninS nq310 nin0))).ext E371)
  have f387 := ((f334.keep K331).ext E371)
  have f388 := ((f335.keep K331 (ninS ne146 (ninS nq312 nin0))).ext E371)
  have f389 := ((f336.keep K331).ext E371)
  have f390 := ((f325.keep K331).ext E371)
  have f391 := ((f328.keep K331 (ninS ne149 (ninS nq315 nin0))).ext E371)
  have f392 := ((f337.keep K331 (ninS ne150 (ninS nq316 nin0))).ext E371)
  have f393 := ((f338.keep K331 (ninS ne151 (ninS nq317 nin0))).ext E371)
  have f394 := ((f339.keep K331).ext E371)
  have f395 := ((f340.keep K331 (ninS (Ne.symm (nx232 b142 Yr234).2) (ninS nq320 nin0))).ext E371)
  obtain ⟨t2_384, k2_384, cap2_384, b2_384, cn2_384, rfl, N384q, K384, f396, f397, f398, f399, f400, f401, f402, f403, f404⟩ := hQ384
  have KK384 : Keep h0 T384.heap [] := Keep.trans K371 K384 (allS (Or.inr z142) (allS (Or.inr zq353) all0))
  have CH405 : CHr Z own_EL s.vm h0 T371.vm T384.heap := CH372.trans (CHr.keep K384 (sfS Yr373 (sfS Yr374 sf0)) CH372.1)
  have N384 := Fr.app N331 N384q
  have oq406 : n0 ≤ t2_384 := own_orc f404 oq353 (fun e_ => Nat.le_trans f383 e_)
  have zq406 : h0.size ≤ t2_384 := own_orc f404 zq353 (fun e_ => Nat.le_trans K371.1 e_)
  have nq407 : lgx ≠ t2_384 := own_orn f404 nq354 (fun e_ => Nat.ne_of_lt (Nat.lt_of_lt_of_le f385.lt e_))
  have nq408 : tgx ≠ t2_384 := own_orn f404 nq355 (fun e_ => Nat.ne_of_lt (Nat.lt_of_lt_of_le f386.lt e_))
  have nq409 : scx ≠ t2_384 := own_orn f404 nq356 (fun e_ => Nat.ne_of_lt (Nat.lt_of_lt_of_le f387.lt e_))
  have nq410 : tsx ≠ t2_384 := own_orn f404 nq357 (fun e_ => Nat.ne_of_lt (Nat.lt_of_lt_of_le f388.lt e_))
  have nq411 : u0 ≠ t2_384 := own_orn f404 nq358 (fun e_ => Nat.ne_of_lt (Nat.lt_of_lt_of_le f389.lt e_))
  have nq412 : ho ≠ t2_384 := own_orn f404 nq359 (fun e_ => Nat.ne_of_lt (Nat.lt_of_lt_of_le f390.lt e_))
  have nq413 : th ≠ t2_384 := own_orn f404 nq360 (fun e_ => Nat.ne_of_lt (Nat.lt_of_lt_of_le f391.lt e_))
  have nq414 : dO ≠ t2_384 := own_orn f404 nq361 (fun e_ => Nat.ne_of_lt (Nat.lt_of_lt_of_le f392.lt e_))
  have nq415 : dT ≠ t2_384 := own_orn f404 nq362 (fun e_ => Nat.ne_of_lt (Nat.lt_of_lt_of_le f393.lt e_))
  have nq416 : b142 ≠ t2_384 := own_orn f404 nq363 (fun e_ => Nat.ne_of_lt (Nat.lt_of_lt_of_le f376.lt e_))
  have nq417 : a232 ≠ t2_384 := own_orn f404 nq364 (fun e_ => Nat.ne_of_lt (Nat.lt_of_lt_of_le f394.lt e_))
  have nq418 : b232 ≠ t2_384 := own_orn f404 nq365 (fun e_ => Nat.ne_of_lt (Nat.lt_of_lt_of_le f395.lt e_))
  have nq419 : a371 ≠ t2_384 := own_orn f404 (Ne.symm (nx371 t2_331 Yr374).1) (fun e_ => Nat.ne_of_lt (Nat.lt_of_lt_of_le Ea371.lt e_))
  have nq420 : b371 ≠ t2_384 := own_orn f404 (Ne.symm (nx371 t2_331 Yr374).2) (fun e_ => Nat.ne_of_lt (Nat.lt_of_lt_of_le Aa371.lt e_))
  have Yq421 : Safe Z own_EL T371.vm h371 t2_384 := own_ors f404 Yr374 (fun e_ => Safe.new e_)
  have f422 := (((((((((f126.ext E142).keep K160 (ninS ne147 nin0)).keep K196 (ninS ne147 (ninS ne181 nin0))).ext E232).keep K245 (ninS ne147 (ninS nq221 nin0))).keep K286 (ninS ne147 (ninS nq270 nin0))).keep K331 (ninS ne147 (ninS nq313 nin0))).ext E371).keep K384 (ninS ne147 (ninS nq358 nin0)))
  obtain ⟨T423, X423, e423, st423⟩ := getF X384 hx hZ371 hown371 (host := "") (Or.inl (oG hw 40 rfl)) Via.refl rfl f422 (g := (mkF m 63 #[rv u0, rv scx, rv lgx] [(.ref u0), (.ref b142)])) rfl rfl (oD hby D6 29 rfl)
  have pre424 : own_V p e below _ T423 (mkF m 66 #[rv u0, rv scx, rv lgx] [(.int po), (.ref b142)]) := fun t kt => pre375 t (by
   refine st384 _ ?_
   refine XS.aloadN X384.here hx rfl (oD hby D6 28 rfl) rfl rfl ?_
   refine st423 _ ?_
   exact kt)
  have f425 := (own_staKeep ((own_staKeep (own_staKeep (own_staKeep ((own_staKeep (own_staKeep (f133.ext E142) K160 (nsS A142.nostat ns0)) K196 (nsS f170.nostat (nsS f174.nostat ns0))).ext E232) K245 (nsS f237.nostat (nsS f241.nostat ns0))) K286 (nsS f255.nostat (nsS f259.nostat ns0))) K331 (nsS f298.nostat (nsS f302.nostat ns0))).ext E371) K384 (nsS f376.nostat (nsS f380.nostat ns0)))
  have f426 := (own_staKeep ((own_staKeep (own_staKeep (own_staKeep ((own_staKeep (own_staKeep (f134.ext E142) K160 (nsS A142.nostat ns0)) K196 (nsS f170.nostat (nsS f174.nostat ns0))).ext E232) K245 (nsS f237.nostat (nsS f241.nostat ns0))) K286 (nsS f255.nostat (nsS f259.nostat ns0))) K331 (nsS f298.nostat (nsS f302.nostat ns0))).ext E371) K384 (nsS f376.nostat (nsS f380.nostat ns0)))
  have f427 := (f392.keep K384 (ninS ne150 (ninS nq361 nin0)))
  have f428 := (f393.keep K384 (ninS ne151 (ninS nq362 nin0)))
  have f429 := (own_staKeep f382 K384 (nsS f376.nostat (nsS f380.nostat ns0)))
  have f430 := (Nat.le_trans f383 K384.1)
  obtain ⟨_, T431, L431, X431, hQ431, st431⟩ := own_cV X423 hx hown371 hZ371 (oG hw 123 rfl) (oG hw 124 rfl) (oG hw 126 rfl) (oG hw 125 rfl) (oG hw 57 rfl) (oG hw 127 rfl) (by decide) (rmBi l Z a0 hw [] b142 po t2_384 k2_384 cap2_384 b2_384 cn2_384 (((((([] : List Int32) ++ (own_sch tl)) ++ ([58, 47, 47] : List Int32)) ++ own_lg pw) ++ xh) ++ ([58] : List Int32)) dO kO vO dT kT vT zC T384.heap n0 f430 f396 f397 f398 f399 f400 f401 f425 f426 f427 f428 hO hT (Ne.symm nq416) ne150 ne151 nq414 nq415 f429 hz f403.2 f403.1 (by have a1 := own_schl tl; have a4 := own_lgl pw; have a2 := own_dl5 h5; have a3 := own_dl10 db; simp only [List.length_append, List.length_cons, List.length_nil]; omega) f402.2 f402.1 hpo o142 oq406) (W := 0) (by decide) (by decide) f396 (g := (mkF m 66 #[rv u0, rv scx, rv lgx] [(.int po), (.ref b142)])) rfl (by rw [hml]; rfl) (argsL := [(.int po)]) (rest := []) (lenOf pd30 rfl) rfl (own_ww rfl) (oD hby D6 30 rfl) e423 rfl (by decide) (by decide)
  have f432 := (f385.keep K384)
  have f433 := (f386.keep K384 (ninS ne144 (ninS nq355 nin0)))
  have f434 := (f387.keep K384)
  have f435 := (f388.keep K384 (ninS ne146 (ninS nq357 nin0)))
  have f436 := (f389.keep K384)
  have f437 := (f390.keep K384)
  have f438 := (f391.keep K384 (ninS ne149 (ninS nq360 nin0)))
  have f439 := (f394.keep K384)
  have f440 := (f395.keep K384 (ninS (Ne.symm (nx232 b142 Yr234).2) (ninS nq365 nin0)))
  have f441 := (Ea371.keep K384)
  have f442 := (Aa371.keep K384 (ninS (Ne.symm (nx371 b142 Yr373).2) (ninS (Ne.symm (nx371 t2_331 Yr374).2) nin0)))
  have f443 : Safe Z own_EL T371.vm T384.heap t2_384 := (Safe.keep K384 (sfS Yr373 (sfS Yr374 sf0)) CH372.1 Yq421)
  have f444 : Safe Z own_EL T371.vm T384.heap b142 := (Safe.keep K384 (sfS Yr373 (sfS Yr374 sf0)) CH372.1 Yr373)
  obtain ⟨t2_431, k2_431, cap2_431, b2_431, cn2_431, rfl, N431q, K431, f445, f446, f447, f448, f449, f450, f451, f452, f453⟩ := hQ431
  have KK431 : Keep h0 T431.heap [] := Keep.trans KK384 K431 (allS (Or.inr z142) (allS (Or.inr zq406) all0))
  have CH454 : CHr Z own_EL s.vm h0 T371.vm T431.heap := CH405.trans (CHr.keep K431 (sfS f444 (sfS f443 sf0)) CH405.1)
  have N431 := Fr.app N384 N431q
  have oq455 : n0 ≤ t2_431 := own_orc f453 oq406 (fun e_ => Nat.le_trans f430 e_)
  have zq455 : h0.size ≤ t2_431 := own_orc f453 zq406 (fun e_ => Nat.le_trans KK384.1 e_)
  have nq456 : lgx ≠ t2_431 := own_orn f453 nq407 (fun e_ => Nat.ne_of_lt (Nat.lt_of_lt_of_le f432.lt e_))
  have nq457 : tgx ≠ t2_431 := own_orn f453 nq408 (fun e_ => Nat.ne_of_lt (Nat.lt_of_lt_of_le f433.lt e_))
  have nq458 : scx ≠ t2_431 := own_orn f453 nq409 (fun e_ => Nat.ne_of_lt (Nat.lt_of_lt_of_le f434.lt e_))
  have nq459 : tsx ≠ t2_431 := own_orn f453 nq410 (fun e_ => Nat.ne_of_lt (Nat.lt_of_lt_of_le f435.lt e_))
  have nq460 : u0 ≠ t2_431 := own_orn f453 nq411 (fun e_ => Nat.ne_of_lt (Nat.lt_of_lt_of_le f436.lt e_))
  have nq461 : ho ≠ t2_431 := own_orn f453 nq412 (fun e_ => Nat.ne_of_lt (Nat.lt_of_lt_of_le f437.lt e_))
  have nq462 : th ≠ t2_431 := own_orn f453 nq413 (fun e_ => Nat.ne_of_lt (Nat.lt_of_lt_of_le f438.lt e_))
  have nq463 : dO ≠ t2_431 := own_orn f453 nq414 (fun e_ => Nat.ne_of_lt (Nat.lt_of_lt_of_le f427.lt e_))
  have nq464 : dT ≠ t2_431 := own_orn f453 nq415 (fun e_ => Nat.ne_of_lt (Nat.lt_of_lt_of_le f428.lt e_))
  have nq465 : b142 ≠ t2_431 := own_orn f453 nq416 (fun e_ => Nat.ne_of_lt (Nat.lt_of_lt_of_le f396.lt e_))
  have nq466 : a232 ≠ t2_431 := own_orn f453 nq417 (fun e_ => Nat.ne_of_lt (Nat.lt_of_lt_of_le f439.lt e_))
  have nq467 : b232 ≠ t2_431 := own_orn f453 nq418 (fun e_ => Nat.ne_of_lt (Nat.lt_of_lt_of_le f440.lt e_))
  have nq468 : a371 ≠ t2_431 := own_orn f453 nq419 (fun e_ => Nat.ne_of_lt (Nat.lt_of_lt_of_le f441.lt e_))
  have nq469 : b371 ≠ t2_431 := own_orn f453 nq420 (fun e_ => Nat.ne_of_lt (Nat.lt_of_lt_of_le f442.lt e_))
  have Yq470 : Safe Z own_EL T371.vm T384.heap t2_431 := own_ors f453 f443 (fun e_ => Safe.new e_)
  have pre471 : own_V p e below _ T431 (mkF m 69 #[rv u0, rv scx, rv lgx] [(.ref b142)]) := fun t kt => pre424 t (by
   refine st431 _ ?_
   exact kt)
  have f472 := (Nat.le_trans (Nat.le_trans hk371 K384.1) K431.1)
  have f473 : Safe Z own_EL T371.vm T431.heap b142 := (Safe.keep K431 (sfS f444 (sfS f443 sf0)) CH405.1 f444)
  have f474 : Safe Z own_EL T371.vm T431.heap t2_431 := (Safe.keep K431 (sfS f444 (sfS f443 sf0)) CH405.1 Yq470)
  obtain ⟨a475, T475, h475, kk475, b475, kc475, X475, e475, E475, hS475, hk475, hZ475, hown475, Ea475, Ca475, Va475, Aa475, la475, lb475, CHq475, Lt475, nx475, st475⟩ := ldcCH (vs := [(.int (47 : Int32))]) (z := (1 : Int32)) (show Stand p l e ({ frames := 6, cells := 22, slots := 410, locals := 91 } : Room) (s.setVm T371.vm) m _ below meth c _ _ _ _ from X431) hx hZ371 hown371 (oG hw 145 rfl) wS rfl hS371 f472 hEL (List.mem_of_getElem? (i := 6) rfl) CH454.1 ⟨by decide, rfl⟩ (by decide) rfl (g := (mkF m 69 #[rv u0, rv scx, rv lgx] [(.ref b142)])) rfl (oD hby D6 31 rfl) (n := 4) (by decide) (by decide) (by decide) (by decide)
  have K475 : Keep h0 h475 [] := KK431.ext E475
  have CH476 : CHr Z own_EL s.vm h0 T475.vm h475 := CH454.trans CHq475
  have Yr477 : Safe Z own_EL T475.vm h475 b142 := CHr.safe CHq475 f445.lt f473
  have Yr478 : Safe Z own_EL T475.vm h475 t2_431 := CHr.safe CHq475 f449.lt f474
  have Qb475 : Exa Z h475 b475 "[B" := own_litB hZ475.alike Aa475 (Classical.byContradiction fun S_ => (nx475 b475 S_).2 rfl)
  have pre479 : own_V p e below _ T475 (mkF m 71 #[rv u0, rv scx, rv lgx] [(.ref a475), (.ref b142)]) := fun t kt => pre471 t (by
   refine st475 _ ?_
   exact kt)
  have f480 := (f445.ext E475)
  have f481 := (f446.ext E475)
  have f482 := (f447.ext E475)
  have f483 := (f448.ext E475)
  have f484 := (f449.ext E475)
  have f485 := (f450.ext E475)
  have f486 := ((own_staKeep f429 K431 (nsS f396.nostat (nsS f400.nostat ns0))).ext E475)
  have f487 := (Nat.le_trans (Nat.le_trans f430 K431.1) E475.1)
  obtain ⟨_, T488, L488, X488, hQ488, st488⟩ := own_cV X475 hx hown475 hZ475 (oG hw 73 rfl) (oG hw 74 rfl) (oG hw 76 rfl) (oG hw 75 rfl) (oG hw 57 rfl) (oG hw 77 rfl) (by decide) (rmBp l Z a0 hw [] b142 a475 b475 kc475 (1 : Int32) [(.int (47 : Int32))] t2_431 k2_431 cap2_431 b2_431 cn2_431 ((((((([] : List Int32) ++ (own_sch tl)) ++ ([58, 47, 47] : List Int32)) ++ own_lg pw) ++ xh) ++ ([58] : List Int32)) ++ own_dl po) ([47] : List Int32) zC h475 n0 f487 f480 f481 f482 f483 f484 f485 Ea475 Va475 Ca475 Aa475 (Ne.symm (nx475 b142 Yr477).2) (Ne.symm (nx475 t2_431 Yr478).2) (Ne.symm (nx475 b142 Yr477).1) (Ne.symm (nx475 t2_431 Yr478).1) (Ne.symm nq465) f486 hz f452.2 f452.1 (by unfold own_len; rfl) (by have a1 := own_schl tl; have a4 := own_lgl pw; have a2 := own_dl5 h5; have a3 := own_dl10 db; simp only [List.length_append, List.length_cons, List.length_nil]; omega) f451.2 f451.1 (own_hasL rfl) o142 oq455) (W := 0) (by decide) (by decide) f480 (g := (mkF m 71 #[rv u0, rv scx, rv lgx] [(.ref a475), (.ref b142)])) rfl (by rw [hml]; rfl) (argsL := [(.ref a475)]) (rest := []) (lenOf pd29 rfl) rfl (own_ww rfl) (oD hby D6 32 rfl) e475 rfl (by decide) (by decide)
  have f489 := ((f432.keep K431).ext E475)
  have f490 := ((f433.keep K431 (ninS ne144 (ninS nq408 nin0))).ext E475)
  have f491 := ((f434.keep K431).ext E475)
  have f492 := ((f435.keep K431 (ninS ne146 (ninS nq410 nin0))).ext E475)
  have f493 := ((f436.keep K431).ext E475)
  have f494 := ((f437.keep K431).ext E475)
  have f495 := ((f438.keep K431 (ninS ne149 (ninS nq413 nin0))).ext E475)
  have f496 := ((f427.keep K431 (ninS ne150 (ninS nq414 nin0))).ext E475)
  have f497 := ((f428.keep K431 (ninS ne151 (ninS nq415 nin0))).ext E475)
  have f498 := ((f439.keep K431).ext E475)
  have f499 := ((f440.keep K431 (ninS (Ne.symm (nx232 b142 Yr234).2) (ninS nq418 nin0))).ext E475)
  have f500 := ((f441.keep K431).ext E475)
  have f501 := ((f442.keep K431 (ninS (Ne.symm (nx371 b142 Yr373).2) (ninS nq420 nin0))).ext E475)
  obtain ⟨t2_488, k2_488, cap2_488, b2_488, cn2_488, rfl, N488q, K488, f502, f503, f504, f505, f506, f507, f508, f509, f510⟩ := hQ488
  have KK488 : Keep h0 T488.heap [] := Keep.trans K475 K488 (allS (Or.inr z142) (allS (Or.inr zq455) all0))
  have CH511 : CHr Z own_EL s.vm h0 T475.vm T488.heap := CH476.trans (CHr.keep K488 (sfS Yr477 (sfS Yr478 sf0)) CH476.1)
  have N488 := Fr.app N431 N488q
  have oq512 : n0 ≤ t2_488 := own_orc f510 oq455 (fun e_ => Nat.le_trans f487 e_)
  have zq512 : h0.size ≤ t2_488 := own_orc f510 zq455 (fun e_ => Nat.le_trans K475.1 e_)
  have nq513 : lgx ≠ t2_488 := own_orn f510 nq456 (fun e_ => Nat.ne_of_lt (Nat.lt_of_lt_of_le f489.lt e_))
  have nq514 : tgx ≠ t2_488 := own_orn f510 nq457 (fun e_ => Nat.ne_of_lt (Nat.lt_of_lt_of_le f490.lt e_))
  have nq515 : scx ≠ t2_488 := own_orn f510 nq458 (fun e_ => Nat.ne_of_lt (Nat.lt_of_lt_of_le f491.lt e_))
  have nq516 : tsx ≠ t2_488 := own_orn f510 nq459 (fun e_ => Nat.ne_of_lt (Nat.lt_of_lt_of_le f492.lt e_))
  have nq517 : u0 ≠ t2_488 := own_orn f510 nq460 (fun e_ => Nat.ne_of_lt (Nat.lt_of_lt_of_le f493.lt e_))
  have nq518 : ho ≠ t2_488 := own_orn f510 nq461 (fun e_ => Nat.ne_of_lt (Nat.lt_of_lt_of_le f494.lt e_))
  have nq519 : th ≠ t2_488 := own_orn f510 nq462 (fun e_ => Nat.ne_of_lt (Nat.lt_of_lt_of_le f495.lt e_))
  have nq520 : dO ≠ t2_488 := own_orn f510 nq463 (fun e_ => Nat.ne_of_lt (Nat.lt_of_lt_of_le f496.lt e_))
  have nq521 : dT ≠ t2_488 := own_orn f510 nq464 (fun e_ => Nat.ne_of_lt (Nat.lt_of_lt_of_le f497.lt e_))
  have nq522 : b142 ≠ t2_488 := own_orn f510 nq465 (fun e_ => Nat.ne_of_lt (Nat.lt_of_lt_of_le f480.lt e_))
  have nq523 : a232 ≠ t2_488 := own_orn f510 nq466 (fun e_ => Nat.ne_of_lt (Nat.lt_of_lt_of_le f498.lt e_))
  have nq524 : b232 ≠ t2_488 := own_orn f510 nq467 (fun e_ => Nat.ne_of_lt (Nat.lt_of_lt_of_le f499.lt e_))
  have nq525 : a371 ≠ t2_488 := own_orn f510 nq468 (fun e_ => Nat.ne_of_lt (Nat.lt_of_lt_of_le f500.lt e_))
  have nq526 : b371 ≠ t2_488 := own_orn f510 nq469 (fun e_ => Nat.ne_of_lt (Nat.lt_of_lt_of_le f501.lt e_))
  have nq527 : a475 ≠ t2_488 := own_orn f510 (Ne.symm (nx475 t2_431 Yr478).1) (fun e_ => Nat.ne_of_lt (Nat.lt_of_lt_of_le Ea475.lt e_))
  have nq528 : b475 ≠ t2_488 := own_orn f510 (Ne.symm (nx475 t2_431 Yr478).2) (fun e_ => Nat.ne_of_lt (Nat.lt_of_lt_of_le Aa475.lt e_))
  have Yq529 : Safe Z own_EL T475.vm h475 t2_488 := own_ors f510 Yr478 (fun e_ => Safe.new e_)
  have f530 := ((((((((((((f127.ext E142).keep K160 (ninS ne147 nin0)).keep K196 (ninS ne147 (ninS ne181 nin0))).ext E232).keep K245 (ninS ne147 (ninS nq221 nin0))).keep K286 (ninS ne147 (ninS nq270 nin0))).keep K331 (ninS ne147 (ninS nq313 nin0))).ext E371).keep K384 (ninS ne147 (ninS nq358 nin0))).keep K431 (ninS ne147 (ninS nq411 nin0))).ext E475).keep K488 (ninS ne147 (ninS nq460 nin0)))
  obtain ⟨T531, X531, e531, st531⟩ := getF X488 hx hZ475 hown475 (host := "") (Or.inl (oG hw 46 rfl)) Via.refl rfl f530 (g := (mkF m 75 #[rv u0, rv scx, rv lgx] [(.ref u0), (.ref b142)])) rfl rfl (oD hby D6 34 rfl)
  have pre532 : own_V p e below _ T531 (mkF m 78 #[rv u0, rv scx, rv lgx] [(.int db), (.ref b142)]) := fun t kt => pre479 t (by
   refine st488 _ ?_
   refine XS.aloadN X488.here hx rfl (oD hby D6 33 rfl) rfl rfl ?_
   refine st531 _ ?_
   exact kt)
  have f533 := (own_staKeep ((own_staKeep f425 K431 (nsS f396.nostat (nsS f400.nostat ns0))).ext E475) K488 (nsS f480.nostat (nsS f484.nostat ns0)))
  have f534 := (own_staKeep ((own_staKeep f426 K431 (nsS f396.nostat (nsS f400.nostat ns0))).ext E475) K488 (nsS f480.nostat (nsS f484.nostat ns0)))
  have f535 := (f496.keep K488 (ninS ne150 (ninS nq463 nin0)))
  have f536 := (f497.keep K488 (ninS ne151 (ninS nq464 nin0)))
  have f537 := (own_staKeep f486 K488 (nsS f480.nostat (nsS f484.nostat ns0)))
  have f538 := (Nat.le_trans f487 K488.1)
  obtain ⟨_, T539, L539, X539, hQ539, st539⟩ := own_cV X531 hx hown475 hZ475 (oG hw 123 rfl) (oG hw 124 rfl) (oG hw 126 rfl) (oG hw 125 rfl) (oG hw 57 rfl) (oG hw 127 rfl) (by decide) (rmBi l Z a0 hw [] b142 db t2_488 k2_488 cap2_488 b2_488 cn2_488 (((((((([] : List Int32) ++ (own_sch tl)) ++ ([58, 47, 47] : List Int32)) ++ own_lg pw) ++ xh) ++ ([58] : List Int32)) ++ own_dl po) ++ ([47] : List Int32)) dO kO vO dT kT vT zC T488.heap n0 f538 f502 f503 f504 f505 f506 f507 f533 f534 f535 f536 hO hT (Ne.symm nq522) ne150 ne151 nq520 nq521 f537 hz f509.2 f509.1 (by have a1 := own_schl tl; have a4 := own_lgl pw; have a2 := own_dl5 h5; have a3 := own_dl10 db; simp only [List.length_append, List.length_cons, List.length_nil]; omega) f508.2 f508.1 hdb o142 oq512) (W := 0) (by decide) (by decide) f502 (g := (mkF m 78 #[rv u0, rv scx, rv lgx] [(.int db), (.ref b142)])) rfl (by rw [hml]; rfl) (argsL := [(.int db)]) (rest := []) (lenOf pd30 rfl) rfl (own_ww rfl) (oD hby D6 35 rfl) e531 rfl (by decide) (by decide)
  have f540 := (f489.keep K488)
  have f541 := (f490.keep K488 (ninS ne144 (ninS nq457 nin0)))
  have f542 := (f491.keep K488)
  have f543 := (f492.keep K488 (ninS ne146 (ninS nq459 nin0)))
  have f544 := (f493.keep K488)
  have f545 := (f494.keep K488)
  have f546 := (f495.keep K488 (ninS ne149 (ninS nq462 nin0)))
  have f547 := (f498.keep K488)
  have f548 := (f499.keep K488 (ninS (Ne.symm (nx232 b142 Yr234).2) (ninS nq467 nin0)))
  have f549 := (f500.keep K488)
  have f550 := (f501.keep K488 (ninS (Ne.symm (nx371 b142 Yr373).2) (ninS nq469 nin0)))
  have f551 := (Ea475.keep K488)
  have f552 := (Aa475.keep K488 (ninS (Ne.symm (nx475 b142 Yr477).2) (ninS (Ne.symm (nx475 t2_431 Yr478).2) nin0)))
  have f553 : Safe Z own_EL T475.vm T488.heap t2_488 := (Safe.keep K488 (sfS Yr477 (sfS Yr478 sf0)) CH476.1 Yq529)
  have f554 : Safe Z own_EL T475.vm T488.heap b142 := (Safe.keep K488 (sfS Yr477 (sfS Yr478 sf0)) CH476.1 Yr477)
  obtain ⟨t2_539, k2_539, cap2_539, b2_539, cn2_539, rfl, N539q, K539, f555, f556, f557, f558, f559, f560, f561, f562, f563⟩ := hQ539
  have KK539 : Keep h0 T539.heap [] := Keep.trans KK488 K539 (allS (Or.inr z142) (allS (Or.inr zq512) all0))
  have CH564 : CHr Z own_EL s.vm h0 T475.vm T539.heap := CH511.trans (CHr.keep K539 (sfS f554 (sfS f553 sf0)) CH511.1)
  have N539 := Fr.app N488 N539q
  have oq565 : n0 ≤ t2_539 := own_orc f563 oq512 (fun e_ => Nat.le_trans f538 e_)
  have zq565 : h0.size ≤ t2_539 := own_orc f563 zq512 (fun e_ => Nat.le_trans KK488.1 e_)
  have nq566 : lgx ≠ t2_539 := own_orn f563 nq513 (fun e_ => Nat.ne_of_lt (Nat.lt_of_lt_of_le f540.lt e_))
  have nq567 : tgx ≠ t2_539 := own_orn f563 nq514 (fun e_ => Nat.ne_of_lt (Nat.lt_of_lt_of_le f541.lt e_))
  have nq568 : scx ≠ t2_539 := own_orn f563 nq515 (fun e_ => Nat.ne_of_lt (Nat.lt_of_lt_of_le f542.lt e_))
  have nq569 : tsx ≠ t2_539 := own_orn f563 nq516 (fun e_ => Nat.ne_of_lt (Nat.lt_of_lt_of_le f543.lt e_))
  have nq570 : u0 ≠ t2_539 := own_orn f563 nq517 (fun e_ => Nat.ne_of_lt (Nat.lt_of_lt_of_le f544.lt e_))
  have nq571 : ho ≠ t2_539 := own_orn f563 nq518 (fun e_ => Nat.ne_of_lt (Nat.lt_of_lt_of_le f545.lt e_))
  have nq572 : th ≠ t2_539 := own_orn f563 nq519 (fun e_ => Nat.ne_of_lt (Nat.lt_of_lt_of_le f546.lt e_))
  have nq573 : dO ≠ t2_539 := own_orn f563 nq520 (fun e_ => Nat.ne_of_lt (Nat.lt_of_lt_of_le f535.lt e_))
  have nq574 : dT ≠ t2_539 := own_orn f563 nq521 (fun e_ => Nat.ne_of_lt (Nat.lt_of_lt_of_le f536.lt e_))
  have nq575 : b142 ≠ t2_539 := own_orn f563 nq522 (fun e_ => Nat.ne_of_lt (Nat.lt_of_lt_of_le f502.lt e_))
  have nq576 : a232 ≠ t2_539 := own_orn f563 nq523 (fun e_ => Nat.ne_of_lt (Nat.lt_of_lt_of_le f547.lt e_))
  have nq577 : b232 ≠ t2_539 := own_orn f563 nq524 (fun e_ => Nat.ne_of_lt (Nat.lt_of_lt_of_le f548.lt e_))
  have nq578 : a371 ≠ t2_539 := own_orn f563 nq525 (fun e_ => Nat.ne_of_lt (Nat.lt_of_lt_of_le f549.lt e_))
  have nq579 : b371 ≠ t2_539 := own_orn f563 nq526 (fun e_ => Nat.ne_of_lt (Nat.lt_of_lt_of_le f550.lt e_))
  have nq580 : a475 ≠ t2_539 := own_orn f563 nq527 (fun e_ => Nat.ne_of_lt (Nat.lt_of_lt_of_le f551.lt e_))
  have nq581 : b475 ≠ t2_539 := own_orn f563 nq528 (fun e_ => Nat.ne_of_lt (Nat.lt_of_lt_of_le f552.lt e_))
  have Yq582 : Safe Z own_EL T475.vm T488.heap t2_539 := own_ors f563 f553 (fun e_ => Safe.new e_)
  have pre583 : own_V p e below _ T539 (mkF m 81 #[rv u0, rv scx, rv lgx] [(.ref b142)]) := fun t kt => pre532 t (by
   refine st539 _ ?_
   exact kt)
  have f584 := (own_staKeep f537 K539 (nsS f502.nostat (nsS f506.nostat ns0)))
  have f585 := (Nat.le_trans f538 K539.1)
  obtain ⟨_, T586, L586, X586, hQ586, st586⟩ := own_cV X539 hx hown475 hZ475 (oG hw 146 rfl) (oG hw 147 rfl) (oG hw 149 rfl) (oG hw 148 rfl) (oG hw 57 rfl) (oG hw 150 rfl) (by decide) (rmTS l Z a0 hw [] b142 t2_539 k2_539 cap2_539 b2_539 cn2_539 ((((((((([] : List Int32) ++ (own_sch tl)) ++ ([58, 47, 47] : List Int32)) ++ own_lg pw) ++ xh) ++ ([58] : List Int32)) ++ own_dl po) ++ ([47] : List Int32)) ++ own_dl db) zC T539.heap n0 f585 f555 f556 f557 f558 f559 f560 f584 hz f562.2 f562.1 (by have a1 := own_schl tl; have a4 := own_lgl pw; have a2 := own_dl5 h5; have a3 := own_dl10 db; simp only [List.length_append, List.length_cons, List.length_nil]; omega) f561.2 f561.1) (W := 0) (by decide) (by decide) f555 (g := (mkF m 81 #[rv u0, rv scx, rv lgx] [(.ref b142)])) rfl (by rw [hml]; rfl) (argsL := []) (rest := []) (lenOf pd31 rfl) rfl (own_ww rfl) (oD hby D6 36 rfl) rfl rfl (by decide) (by decide)
  have f587 := (f540.keep K539)
  have f588 := (f541.keep K539 (ninS ne144 (ninS nq514 nin0)))
  have f589 := (f542.keep K539)
  have f590 := (f543.keep K539 (ninS ne146 (ninS nq516 nin0)))
  have f591 := (f544.keep K539)
  have f592 := (f545.keep K539)
  have f593 := (f546.keep K539 (ninS ne149 (ninS nq519 nin0)))
  have f594 := (f535.keep K539 (ninS ne150 (ninS nq520 nin0)))
  have f595 := (f536.keep K539 (ninS ne151 (ninS nq521 nin0)))
  have f596 := (f547.keep K539)
  have f597 := (f548.keep K539 (ninS (Ne.symm (nx232 b142 Yr234).2) (ninS nq524 nin0)))
  have f598 := (f549.keep K539)
  have f599 := (f550.keep K539 (ninS (Ne.symm (nx371 b142 Yr373).2) (ninS nq526 nin0)))
  have f600 := (f551.keep K539)
  have f601 := (f552.keep K539 (ninS (Ne.symm (nx475 b142 Yr477).2) (ninS nq528 nin0)))
  obtain ⟨sg_586, yv_586, ky_586, ys_586, rfl, N586q, K586, sx586_0, sx586_1, px586_0, f602, f603, f604, f605, f606, f607⟩ := hQ586
  have osg_586 : n0 ≤ sg_586 := Nat.le_trans f585 sx586_0
  have zsg_586 : h0.size ≤ sg_586 := Nat.le_trans KK539.1 sx586_0
  have ne608 : lgx ≠ sg_586 := Nat.ne_of_lt (Nat.lt_of_lt_of_le f587.lt sx586_0)
  have ne609 : tgx ≠ sg_586 := Nat.ne_of_lt (Nat.lt_of_lt_of_le f588.lt sx586_0)
  have ne610 : scx ≠ sg_586 := Nat.ne_of_lt (Nat.lt_of_lt_of_le f589.lt sx586_0)
  have ne611 : tsx ≠ sg_586 := Nat.ne_of_lt (Nat.lt_of_lt_of_le f590.lt sx586_0)
  have ne612 : u0 ≠ sg_586 := Nat.ne_of_lt (Nat.lt_of_lt_of_le f591.lt sx586_0)
  have ne613 : ho ≠ sg_586 := Nat.ne_of_lt (Nat.lt_of_lt_of_le f592.lt sx586_0)
  have ne614 : th ≠ sg_586 := Nat.ne_of_lt (Nat.lt_of_lt_of_le f593.lt sx586_0)
  have ne615 : dO ≠ sg_586 := Nat.ne_of_lt (Nat.lt_of_lt_of_le f594.lt sx586_0)
  have ne616 : dT ≠ sg_586 := Nat.ne_of_lt (Nat.lt_of_lt_of_le f595.lt sx586_0)
  have ne617 : b142 ≠ sg_586 := Nat.ne_of_lt (Nat.lt_of_lt_of_le f555.lt sx586_0)
  have ne618 : a232 ≠ sg_586 := Nat.ne_of_lt (Nat.lt_of_lt_of_le f596.lt sx586_0)
  have ne619 : b232 ≠ sg_586 := Nat.ne_of_lt (Nat.lt_of_lt_of_le f597.lt sx586_0)
  have ne620 : a371 ≠ sg_586 := Nat.ne_of_lt (Nat.lt_of_lt_of_le f598.lt sx586_0)
  have ne621 : b371 ≠ sg_586 := Nat.ne_of_lt (Nat.lt_of_lt_of_le f599.lt sx586_0)
  have ne622 : a475 ≠ sg_586 := Nat.ne_of_lt (Nat.lt_of_lt_of_le f600.lt sx586_0)
  have ne623 : b475 ≠ sg_586 := Nat.ne_of_lt (Nat.lt_of_lt_of_le f601.lt sx586_0)
  have ne624 : t2_539 ≠ sg_586 := Nat.ne_of_lt (Nat.lt_of_lt_of_le f559.lt sx586_0)
  have oyv_586 : n0 ≤ yv_586 := Nat.le_trans f585 sx586_1
  have zyv_586 : h0.size ≤ yv_586 := Nat.le_trans KK539.1 sx586_1
  have ne625 : lgx ≠ yv_586 := Nat.ne_of_lt (Nat.lt_of_lt_of_le f587.lt sx586_1)
  have ne626 : tgx ≠ yv_586 := Nat.ne_of_lt (Nat.lt_of_lt_of_le f588.lt sx586_1)
  have ne627 : scx ≠ yv_586 := Nat.ne_of_lt (Nat.lt_of_lt_of_le f589.lt sx586_1)
  have ne628 : tsx ≠ yv_586 := Nat.ne_of_lt (Nat.lt_of_lt_of_le f590.lt sx586_1)
  have ne629 : u0 ≠ yv_586 := Nat.ne_of_lt (Nat.lt_of_lt_of_le f591.lt sx586_1)
  have ne630 : ho ≠ yv_586 := Nat.ne_of_lt (Nat.lt_of_lt_of_le f592.lt sx586_1)
  have ne631 : th ≠ yv_586 := Nat.ne_of_lt (Nat.lt_of_lt_of_le f593.lt sx586_1)
  have ne632 : dO ≠ yv_586 := Nat.ne_of_lt (Nat.lt_of_lt_of_le f594.lt sx586_1)
  have ne633 : dT ≠ yv_586 := Nat.ne_of_lt (Nat.lt_of_lt_of_le f595.lt sx586_1)
  have ne634 : b142 ≠ yv_586 := Nat.ne_of_lt (Nat.lt_of_lt_of_le f555.lt sx586_1)
  have ne635 : a232 ≠ yv_586 := Nat.ne_of_lt (Nat.lt_of_lt_of_le f596.lt sx586_1)
  have ne636 : b232 ≠ yv_586 := Nat.ne_of_lt (Nat.lt_of_lt_of_le f597.lt sx586_1)
  have ne637 : a371 ≠ yv_586 := Nat.ne_of_lt (Nat.lt_of_lt_of_le f598.lt sx586_1)
  have ne638 : b371 ≠ yv_586 := Nat.ne_of_lt (Nat.lt_of_lt_of_le f599.lt sx586_1)
  have ne639 : a475 ≠ yv_586 := Nat.ne_of_lt (Nat.lt_of_lt_of_le f600.lt sx586_1)
  have ne640 : b475 ≠ yv_586 := Nat.ne_of_lt (Nat.lt_of_lt_of_le f601.lt sx586_1)
  have ne641 : t2_539 ≠ yv_586 := Nat.ne_of_lt (Nat.lt_of_lt_of_le f559.lt sx586_1)
  have Yn642 : Safe Z own_EL T475.vm T539.heap sg_586 := Safe.new sx586_0
  have Yn643 : Safe Z own_EL T475.vm T539.heap yv_586 := Safe.new sx586_1
  have KK586 : Keep h0 T586.heap [] := Keep.trans KK539 K586 all0
  have CH644 : CHr Z own_EL s.vm h0 T475.vm T586.heap := CH564.trans (CHr.keep K586 sf0 CH564.1)
  have N586 := Fr.app N539 N586q
  obtain ⟨fs, hr, hrun, hended, hW, hsame⟩ := X586.leave (v := some (.ref sg_586)) (fun h => by rw [Bd.returns] at h; cases h)
  have f645 := (Nat.le_trans (Nat.le_trans (Nat.le_trans hk475 K488.1) K539.1) K586.1)
  have qE := hS475.ended (c := ({ frames := 6, cells := 22, slots := 410, locals := 91 } : Room).cells) (k := ({ frames := 6, cells := 22, slots := 410, locals := 91 } : Room).slots) hW (show _ ≤ T586.heap.size from f645) (hsame.mono (by decide) (by decide))
  have qC : CHr Z own_EL s.vm s.heap T586.vm T586.heap := by rw [hh]; exact CH644.trans (CHv.at (show Stand p l e ({ frames := 6, cells := 22, slots := 410, locals := 91 } : Room) (s.setVm T475.vm) m _ below meth c _ _ _ _ from X586) hZ475 hEL CH644.1)
  refine ⟨_, _, pre583 _ ?_, hrun, hended, _, _, rfl, ?_, qC, ⟨_, rfl⟩, qE.1, qE.2.1, qE.2.2⟩
  · refine st586 _ ?_
    show Steps _ _ _ (T586.setTop (mkF m 84 #[rv u0, rv scx, rv lgx] [(.ref sg_586)])) _
    exact retOut X586 hx Bd.returns rfl (Or.inr (Or.inr (Or.inr (Or.inr ⟨rfl, rfl, rfl⟩)))) (oD hby D6 37 rfl) hr
  · show Q_rmTo Z u0 tl ho po db pv pw th kh zh vh xh zC dO kO vO dT kT vT h0 n0 _ T586.heap _
    exact ⟨sg_586, yv_586, ky_586, cn2_539, ys_586, rfl, N586, KK586, zsg_586, zyv_586, px586_0, f602, f603, f604, f606, (show own_has _ (((((((((own_sch tl) ++ ([58, 47, 47] : List Int32)) ++ own_lg pw) ++ xh) ++ ([58] : List Int32)) ++ own_dl po) ++ ([47] : List Int32)) ++ own_dl db)) from f607), (show own_len (((((((((own_sch tl) ++ ([58, 47, 47] : List Int32)) ++ own_lg pw) ++ xh) ++ ([58] : List Int32)) ++ own_dl po) ++ ([47] : List Int32)) ++ own_dl db)) _ from f562.1)⟩

theorem ef_rmLt (m : MethodId) (x0 : Addr) (x1 : Int32) (x2 : Int32) : entryFrame m #[(.ref x0), (.int x1), (.int x2)] 3 = mkF m 0 #[rv x0, iv x1, iv x2] [] := by first | (simp [entryFrame, mkF, argsToLocals, Value.category]; done) | rfl
theorem rmLt (l : Launch) (Z : State) (a0 : Array Value) (hw : own_W a0 Z) (ws : List Jvm.Cond) (u0 : Addr) (p1 : Int32) (p2 : Int32) (tv : Addr) (kt : ClassId) (z : Int32) (vs : List Value) (zC : Int32) (fv : Value) (xx : Int32) (xr : List Int32) (h0 : Heap) (n0 : Nat) (Z0 : n0 ≤ h0.size) (P_E_u0 : Exa Z h0 u0 "java/lang/String") (P_F_u0_String_value : Fld Z h0 u0 "java/lang/String" "value" "[B" (.ref tv)) (P_F_u0_String_coder : Fld Z h0 u0 "java/lang/String" "coder" "B" (.int (0 : Int32))) (P_G_tv : Arv Z h0 tv kt .byte z vs (.int 0)) (P_S_String_COMPACT_STRINGS : Sta Z h0 "java/lang/String" "COMPACT_STRINGS" "Z" (.int zC)) (hz : ¬ (zC = (0 : Int32))) (P_S_Preconditions_SIOOBE_FORMATTER : Sta Z h0 "jdk/internal/util/Preconditions" "SIOOBE_FORMATTER" "Ljava/util/function/BiFunction;" fv) (hfv : (fv = .null ∨ ∃ a, fv = .ref a)) (hrd : own_rst vs z p1 (xx :: xr)) (hx_ : nar .char (own_ch xx) = p2) :
    own_MF l own_y46 (Jvm.Cond.code own_y46 method_2_code 3 (some .int)) ws ({ frames := 4, cells := 0, slots := 0, locals := 53 } : Room) #[(.ref u0), (.int p1), (.int p2)] Z h0 (own_QP (some (.int (p1 + (1 : Int32)))) h0 n0) := by
  refine own_enter (n0 := n0) (plainFor_of_name pn_32) (C := "com/example/fastpath/fastpath/settings/RedisServerToStringPinLaw") rfl (fun m => ef_rmLt m u0 p1 p2) fun p e s m below meth c s₁ Bd hx hby hml hown hnm hZ hh X0 e0 N0 pre0 => ?_
  obtain ⟨_, T1, L1, X1, hQ1, st1⟩ := own_cV X0 hx hown hZ (oG hw 191 rfl) (oG hw 84 rfl) (oG hw 86 rfl) (oG hw 85 rfl) (oG hw 3 rfl) (oG hw 87 rfl) (by decide) (rmLe l Z a0 hw [] u0 tv kt z vs zC h0 n0 Z0 P_E_u0 P_F_u0_String_value P_F_u0_String_coder P_G_tv P_S_String_COMPACT_STRINGS hz) (W := 1) (by decide) (by decide) P_E_u0 (g := (mkF m 6 #[rv u0, iv p1, iv p2] [(.ref u0), (.int p1)])) rfl (by rw [hml]; rfl) (argsL := []) (rest := [(.int p1)]) (lenOf pd8 rfl) rfl (own_ww rfl) (oD hby D32 4 rfl) e0 rfl (by decide) (by decide)
  obtain ⟨rfl, N1q, e1⟩ := hQ1
  have N1 := Fr.app N0 N1q
  obtain ⟨_, T2, L2, X2, hQ2, st2⟩ := own_cV X1 hx hown hZ (oG hw 192 rfl) (oG hw 193 rfl) (oG hw 195 rfl) (oG hw 194 rfl) (oG hw 3 rfl) (oG hw 196 rfl) (by decide) (rmCA l Z a0 hw [] u0 p1 tv kt z vs zC fv h0 n0 Z0 P_E_u0 P_F_u0_String_value P_F_u0_String_coder P_G_tv P_S_String_COMPACT_STRINGS hz P_S_Preconditions_SIOOBE_FORMATTER hfv (own_rI hrd).1 (own_rI hrd).2) (W := 0) (by decide) (by decide) P_E_u0 (g := (mkF m 16 #[rv u0, iv p1, iv p2] [(.int p1), (.ref u0)])) rfl (by rw [hml]; rfl) (argsL := [(.int p1)]) (rest := []) (lenOf pd32 rfl) rfl (own_ww rfl) (oD hby D32 8 rfl) e1 rfl (by decide) (by decide)
  obtain ⟨rfl, N2q, e2⟩ := hQ2
  have N2 := Fr.app N1 N2q
  obtain ⟨fs, hr, hrun, hended, hW, hsame⟩ := X2.leave (v := some (.int (p1 + (1 : Int32)))) (fun h => by rw [Bd.returns] at h; cases h)
  refine ⟨_, _, pre0 _ ?_, hrun, hended, _, _, rfl, ?_, ⟨_, rfl⟩, hW, hsame.mono (by decide) (by decide)⟩
  · refine XS.iloadN X0.here hx rfl (oD hby D32 0 rfl) rfl ?_
    refine XS.ifNo X0.here hx rfl (oD hby D32 1 rfl) rfl ((if0 _ _).trans (flt (own_rI hrd).1).1) ?_
    refine XS.iloadN X0.here hx rfl (oD hby D32 2 rfl) rfl ?_
    refine XS.aloadN X0.here hx rfl (oD hby D32 3 rfl) rfl rfl ?_
    refine st1 _ ?_
    refine XS.icmpYes X1.here hx rfl (pc0 := 9) (pc' := 14) rfl (oD hby D32 5 rfl) rfl (tlt (own_rI hrd).2).1 (by decide) (by decide) ?_
    refine XS.aloadN X1.here hx rfl (oD hby D32 6 rfl) rfl rfl ?_
    refine XS.iloadN X1.here hx rfl (oD hby D32 7 rfl) rfl ?_
    refine st2 _ ?_
    refine XS.iloadN X2.here hx rfl (oD hby D32 9 rfl) rfl ?_
    refine XS.icmpNo X2.here hx rfl (oD hby D32 10 rfl) rfl (teq (own_lcx hrd hx_)).2 ?_
    refine XS.iloadN X2.here hx rfl (oD hby D32 11 rfl) rfl ?_
    refine XS.iconst X2.here hx rfl (oD hby D32 12 rfl) ?_
    refine XS.iadd X2.here hx rfl (oD hby D32 13 rfl) rfl ?_
    refine XS.goto X2.here hx rfl (pc0 := 26) (pc' := 30) rfl (oD hby D32 14 rfl) (by decide) (by decide) ?_
    show Steps _ _ _ (T2.setTop (mkF m 30 #[rv u0, iv p1, iv p2] [(.int (p1 + (1 : Int32)))])) _
    exact retI X2 hx Bd.returns (oD hby D32 15 rfl) hr
  · show own_QP (some (.int (p1 + (1 : Int32)))) h0 n0 _ T2.heap _
    rw [e2]
    exact ⟨rfl, N2, rfl⟩

theorem ef_rmDg (m : MethodId) (x0 : Addr) (x1 : Int32) (x2 : Int32) (x3 : Int32) (x4 : Int32) (x5 : Addr) : entryFrame m #[(.ref x0), (.int x1), (.int x2), (.int x3), (.int x4), (.ref x5)] 9 = mkF m 0 #[rv x0, iv x1, iv x2, iv x3, iv x4, rv x5, .unset, .unset, .unset] [] := by first | (simp [entryFrame, mkF, argsToLocals, Value.category]; done) | rfl
theorem rmDg (l : Launch) (Z : State) (a0 : Array Value) (hw : own_W a0 Z) (ws : List Jvm.Cond) (u0 : Addr) (p1 : Int32) (p2 : Int32) (p3 : Int32) (p4 : Int32) (u5 : Addr) (tv : Addr) (kt : ClassId) (z : Int32) (vs : List Value) (kL : ClassId) (zC : Int32) (fv : Value) (xr : List Int32) (h0 : Heap) (n0 : Nat) (Z0 : n0 ≤ h0.size) (P_E_u0 : Exa Z h0 u0 "java/lang/String") (P_F_u0_String_value : Fld Z h0 u0 "java/lang/String" "value" "[B" (.ref tv)) (P_F_u0_String_coder : Fld Z h0 u0 "java/lang/String" "coder" "B" (.int (0 : Int32))) (P_G_tv : Arv Z h0 tv kt .byte z vs (.int 0)) (P_V_u5 : Arv Z h0 u5 kL .long (10 : Int32) [(.long (1 : Int64)), (.long (10 : Int64)), (.long (100 : Int64)), (.long (1000 : Int64)), (.long (10000 : Int64)), (.long (100000 : Int64)), (.long (1000000 : Int64)), (.long (10000000 : Int64)), (.long (100000000 : Int64)), (.long (1000000000 : Int64))] (.long (0 : Int64))) (P_S_String_COMPACT_STRINGS : Sta Z h0 "java/lang/String" "COMPACT_STRINGS" "Z" (.int zC)) (hz : ¬ (zC = (0 : Int32))) (P_S_Preconditions_SIOOBE_FORMATTER : Sta Z h0 "jdk/internal/util/Preconditions" "SIOOBE_FORMATTER" "Ljava/util/function/BiFunction;" fv) (hfv : (fv = .null ∨ ∃ a, fv = .ref a)) (hrd : own_rst vs z p1 (own_dl p4 ++ xr)) (hv : ¬ p4 < 0) (hn : p3 = own_ni p4) (hk_ : ¬ p2 < 0) :
    own_MF l own_y47 (Jvm.Cond.code own_y47 method_3_code 9 (some .boolean)) ws ({ frames := 4, cells := 0, slots := 0, locals := 53 } : Room) #[(.ref u0), (.int p1), (.int p2), (.int p3), (.int p4), (.ref u5)] Z h0 (own_QP (some (.int (1 : Int32))) h0 n0) := by
  refine own_enter (n0 := n0) (plainFor_of_name pn_32) (C := "com/example/fastpath/fastpath/settings/RedisServerToStringPinLaw") rfl (fun m => ef_rmDg m u0 p1 p2 p3 p4 u5) fun p e s m below meth c s₁ Bd hx hby hml hown hnm hZ hh X0 e0 N0 pre0 => ?_
  have pre2 : own_V p e below _ s₁ (mkF m 2 #[rv u0, iv p1, iv p2, iv p3, iv p4, rv u5, .unset, .unset, .unset] [(.int p3), (.int p2)]) := fun t kt => pre0 t (by
   refine XS.iloadN X0.here hx rfl (oD hby D39 0 rfl) rfl ?_
   refine XS.iloadN X0.here hx rfl (oD hby D39 1 rfl) rfl ?_
   exact kt)
  by_cases hc2_1 : p2 < p3
  · obtain ⟨_, T3, L3, X3, hQ3, st3⟩ := own_cV X0 hx hown hZ (oG hw 191 rfl) (oG hw 84 rfl) (oG hw 86 rfl) (oG hw 85 rfl) (oG hw 3 rfl) (oG hw 87 rfl) (by decide) (rmLe l Z a0 hw [] u0 tv kt z vs zC h0 n0 Z0 P_E_u0 P_F_u0_String_value P_F_u0_String_coder P_G_tv P_S_String_COMPACT_STRINGS hz) (W := 1) (by decide) (by decide) P_E_u0 (g := (mkF m 15 #[rv u0, iv p1, iv p2, iv p3, iv p4, rv u5, iv (p1 + p2), .unset, .unset] [(.ref u0), (.int (p1 + p2))])) rfl (by rw [hml]; rfl) (argsL := []) (rest := [(.int (p1 + p2))]) (lenOf pd8 rfl) rfl (own_ww rfl) (oD hby D39 9 rfl) e0 rfl (by decide) (by decide)
    obtain ⟨rfl, N3q, e3⟩ := hQ3
    have N3 := Fr.app N0 N3q
    obtain ⟨cl4, Ar4, qq4, S4, N4_, H4, G4⟩ := id P_V_u5
    have hin4 : ¬ (((p3 - (1 : Int32)) - p2) < 0 ∨ cl4.slots.size ≤ (((p3 - (1 : Int32)) - p2)).toNatClampNeg) := inb_of S4 (own_dgb hn hk_ hc2_1)
    have hat4 : cl4.slots[(((p3 - (1 : Int32)) - p2)).toNatClampNeg]? = some (.long (own_pw ((p3 - (1 : Int32)) - p2))) := H4.at hin4 (own_pwe (own_dgb hn hk_ hc2_1))
    obtain ⟨_, T5, L5, X5, hQ5, st5⟩ := own_cV X3 hx hown hZ (oG hw 192 rfl) (oG hw 193 rfl) (oG hw 195 rfl) (oG hw 194 rfl) (oG hw 3 rfl) (oG hw 196 rfl) (by decide) (rmCA l Z a0 hw [] u0 (p1 + p2) tv kt z vs zC fv h0 n0 Z0 P_E_u0 P_F_u0_String_value P_F_u0_String_coder P_G_tv P_S_String_COMPACT_STRINGS hz P_S_Preconditions_SIOOBE_FORMATTER hfv (own_dgi hrd hn hk_ hc2_1).1.1 (own_dgi hrd hn hk_ hc2_1).1.2) (W := 0) (by decide) (by decide) P_E_u0 (g := (mkF m 44 #[rv u0, iv p1, iv p2, iv p3, iv p4, rv u5, iv (p1 + p2), .val (.long (((p4.toInt64) / (own_pw ((p3 - (1 : Int32)) - p2))) - (((p4.toInt64) / (own_pw ((p3 - (1 : Int32)) - p2))) / (10 : Int64)) * (10 : Int64))), .second] [(.int (p1 + p2)), (.ref u0)])) rfl (by rw [hml]; rfl) (argsL := [(.int (p1 + p2))]) (rest := []) (lenOf pd32 rfl) rfl (own_ww rfl) (oD hby D39 26 rfl) e3 rfl (by decide) (by decide)
    obtain ⟨rfl, N5q, e5⟩ := hQ5
    have N5 := Fr.app N3 N5q
    obtain ⟨fs, hr, hrun, hended, hW, hsame⟩ := X5.leave (v := some (.int (1 : Int32))) (fun h => by rw [Bd.returns] at h; cases h)
    refine ⟨_, _, pre2 _ ?_, hrun, hended, _, _, rfl, ?_, ⟨_, rfl⟩, hW, hsame.mono (by decide) (by decide)⟩
    · refine XS.icmpYes X0.here hx rfl (pc0 := 2) (pc' := 7) rfl (oD hby D39 2 rfl) rfl (tlt hc2_1).1 (by decide) (by decide) ?_
      refine XS.iloadN X0.here hx rfl (oD hby D39 3 rfl) rfl ?_
      refine XS.iloadN X0.here hx rfl (oD hby D39 4 rfl) rfl ?_
      refine XS.iadd X0.here hx rfl (oD hby D39 5 rfl) rfl ?_
      refine XS.istore X0.here hx rfl (oD hby D39 6 rfl) rfl rfl ?_
      refine XS.iload X0.here hx rfl (oD hby D39 7 rfl) rfl ?_
      refine XS.aloadN X0.here hx rfl (oD hby D39 8 rfl) rfl rfl ?_
      refine st3 _ ?_
      refine XS.icmpYes X3.here hx rfl (pc0 := 18) (pc' := 23) rfl (oD hby D39 10 rfl) rfl (tlt (own_dgi hrd hn hk_ hc2_1).1.2).1 (by decide) (by decide) ?_
      refine XS.iload X3.here hx rfl (oD hby D39 11 rfl) rfl ?_
      refine XS.i2l X3.here hx rfl (oD hby D39 12 rfl) rfl ?_
      refine XS.aload X3.here hx rfl (oD hby D39 13 rfl) rfl rfl ?_
      refine XS.iloadN X3.here hx rfl (oD hby D39 14 rfl) rfl ?_
      refine XS.iconst X3.here hx rfl (oD hby D39 15 rfl) ?_
      refine XS.isub X3.here hx rfl (oD hby D39 16 rfl) rfl ?_
      refine XS.iloadN X3.here hx rfl (oD hby D39 17 rfl) rfl ?_
      refine XS.isub X3.here hx rfl (oD hby D39 18 rfl) rfl ?_
      refine X3.laload hx (j := ((p3 - (1 : Int32)) - p2)) (v := (.long (own_pw ((p3 - (1 : Int32)) - p2)))) (by rw [e3]; exact Ar4.1) (State.isArrayOf_alike hZ.alike Ar4.2.1) Ar4.2.2 hin4 hat4 (g := (mkF m 33 #[rv u0, iv p1, iv p2, iv p3, iv p4, rv u5, iv (p1 + p2), .unset, .unset] [(.int ((p3 - (1 : Int32)) - p2)), (.ref u5), (.long (p4.toInt64))])) rfl rfl (oD hby D39 19 rfl) _ ?_
      refine XS.ldiv X3.here hx rfl (oD hby D39 20 rfl) rfl (own_pw0 (own_dgb hn hk_ hc2_1)) ?_
      refine X3.ldc2Long hx hown (mvT hZ (oG hw 218 rfl)) (g := (mkF m 35 #[rv u0, iv p1, iv p2, iv p3, iv p4, rv u5, iv (p1 + p2), .unset, .unset] [(.long ((p4.toInt64) / (own_pw ((p3 - (1 : Int32)) - p2))))])) rfl (oD hby D39 21 rfl) _ ?_
      refine XS.lrem X3.here hx rfl (oD hby D39 22 rfl) rfl (by decide : ¬ ((10 : Int64) = (0 : Int64))) ?_
      refine XS.lstore X3.here hx rfl (oD hby D39 23 rfl) rfl rfl ?_
      show Steps _ _ _ (T3.setTop (mkF m 41 #[rv u0, iv p1, iv p2, iv p3, iv p4, rv u5, iv (p1 + p2), .val (.long (((p4.toInt64) / (own_pw ((p3 - (1 : Int32)) - p2))) - (((p4.toInt64) / (own_pw ((p3 - (1 : Int32)) - p2))) / (10 : Int64)) * (10 : Int64))), .second] [])) _
      refine XS.aloadN X3.here hx rfl (oD hby D39 24 rfl) rfl rfl ?_
      refine XS.iload X3.here hx rfl (oD hby D39 25 rfl) rfl ?_
      refine st5 _ ?_
      refine X5.ldc2Long hx hown (mvT hZ (oG hw 235 rfl)) (g := (mkF m 47 #[rv u0, iv p1, iv p2, iv p3, iv p4, rv u5, iv (p1 + p2), .val (.long (((p4.toInt64) / (own_pw ((p3 - (1 : Int32)) - p2))) - (((p4.toInt64) / (own_pw ((p3 - (1 : Int32)) - p2))) / (10 : Int64)) * (10 : Int64))), .second] [(.int (nar .char (own_ch (own_at vs (p1 + p2)))))])) rfl (oD hby D39 27 rfl) _ ?_
      refine XS.lload X5.here hx rfl (oD hby D39 28 rfl) rfl ?_
      refine XS.ladd X5.here hx rfl (oD hby D39 29 rfl) rfl ?_
      refine XS.l2i X5.here hx rfl (oD hby D39 30 rfl) rfl ?_
      refine XS.i2c X5.here hx rfl (oD hby D39 31 rfl) rfl ?_
      refine XS.icmpNo X5.here hx rfl (oD hby D39 32 rfl) rfl (teq (own_dgc hrd hv hn hk_ hc2_1)).2 ?_
      refine XS.iconst X5.here hx rfl (oD hby D39 33 rfl) ?_
      refine XS.goto X5.here hx rfl (pc0 := 59) (pc' := 63) rfl (oD hby D39 34 rfl) (by decide) (by decide) ?_
      show Steps _ _ _ (T5.setTop (mkF m 63 #[rv u0, iv p1, iv p2, iv p3, iv p4, rv u5, iv (p1 + p2), .val (.long (((p4.toInt64) / (own_pw ((p3 - (1 : Int32)) - p2))) - (((p4.toInt64) / (own_pw ((p3 - (1 : Int32)) - p2))) / (10 : Int64)) * (10 : Int64))), .second] [(.int (1 : Int32))])) _
      exact retN X5 hx (t := .boolean) Bd.returns (by simp) (oD hby D39 35 rfl) hr
    · show own_QP (some (.int (1 : Int32))) h0 n0 _ T5.heap _
      rw [e5]
      exact ⟨rfl, N5, rfl⟩
  · obtain ⟨fs, hr, hrun, hended, hW, hsame⟩ := X0.leave (v := some (.int (1 : Int32))) (fun h => by rw [Bd.returns] at h; cases h)
    refine ⟨_, _, pre2 _ ?_, hrun, hended, _, _, rfl, ?_, ⟨_, rfl⟩, hW, hsame.mono (by decide) (by decide)⟩
    · refine XS.icmpNo X0.here hx rfl (oD hby D39 2 rfl) rfl (flt hc2_1).1 ?_
      refine XS.iconst X0.here hx rfl (oD hby D39 36 rfl) ?_
      show Steps _ _ _ (s₁.setTop (mkF m 6 #[rv u0, iv p1, iv p2, iv p3, iv p4, rv u5, .unset, .unset, .unset] [(.int (1 : Int32))])) _
      exact retN X0 hx (t := .boolean) Bd.returns (by simp) (oD hby D39 37 rfl) hr
    · show own_QP (some (.int (1 : Int32))) h0 n0 _ s₁.heap _
      rw [e0]
      exact ⟨rfl, N0, rfl⟩

theorem ef_rmNu (m : MethodId) (x0 : Addr) (x1 : Int32) (x2 : Int32) : entryFrame m #[(.ref x0), (.int x1), (.int x2)] 5 = mkF m 0 #[rv x0, iv x1, iv x2, .unset, .unset] [] := by first | (simp [entryFrame, mkF, argsToLocals, Value.category]; done) | rfl
def Q_rmNu (Z : State) (u0 : Addr) (p1 : Int32) (p2 : Int32) (tv : Addr) (kt : ClassId) (z : Int32) (vs : List Value) (zC : Int32) (fv : Value) (xr : List Int32) (h0 : Heap) (n0 : Nat) (v : Option Value) (h : Heap) (L : List Loc) : Prop := (v = (some (.int (p1 + (own_ni p2)))) ∧ Fr n0 L ∧ Keep h0 h [])
theorem rmNu (l : Launch) (Z : State) (a0 : Array Value) (hw : own_W a0 Z) (ws : List Jvm.Cond) (u0 : Addr) (p1 : Int32) (p2 : Int32) (tv : Addr) (kt : ClassId) (z : Int32) (vs : List Value) (zC : Int32) (fv : Value) (xr : List Int32) (h0 : Heap) (n0 : Nat) (Z0 : n0 ≤ h0.size) (P_E_u0 : Exa Z h0 u0 "java/lang/String") (P_F_u0_String_value : Fld Z h0 u0 "java/lang/String" "value" "[B" (.ref tv)) (P_F_u0_String_coder : Fld Z h0 u0 "java/lang/String" "coder" "B" (.int (0 : Int32))) (P_G_tv : Arv Z h0 tv kt .byte z vs (.int 0)) (P_S_String_COMPACT_STRINGS : Sta Z h0 "java/lang/String" "COMPACT_STRINGS" "Z" (.int zC)) (hz : ¬ (zC = (0 : Int32))) (P_S_Preconditions_SIOOBE_FORMATTER : Sta Z h0 "jdk/internal/util/Preconditions" "SIOOBE_FORMATTER" "Ljava/util/function/BiFunction;" fv) (hfv : (fv = .null ∨ ∃ a, fv = .ref a)) (hrd : own_rst vs z p1 (own_dl p2 ++ xr)) (hv : ¬ p2 < 0) :
    own_MF l own_y48 (Jvm.Cond.code own_y48 method_4_code 5 (some .int)) ws ({ frames := 5, cells := 1, slots := 10, locals := 73 } : Room) #[(.ref u0), (.int p1), (.int p2)] Z h0 (Q_rmNu Z u0 p1 p2 tv kt z vs zC fv xr h0 n0) := by
  refine own_enter (n0 := n0) (plainFor_of_name pn_32) (C := "com/example/fastpath/fastpath/settings/RedisServerToStringPinLaw") rfl (fun m => ef_rmNu m u0 p1 p2) fun p e s m below meth c s₁ Bd hx hby hml hown hnm hZ hh X0 e0 N0 pre0 => ?_
  obtain ⟨T1, h1, k1, X1, e1, E1, A1, st1⟩ := newP X0 hx hZ (oG hw 217 rfl) e0 (g := (mkF m 12 #[rv u0, iv p1, iv p2, .unset, .unset] [(.int (10 : Int32))])) rfl (oD hby D38 5 rfl) rfl (by decide) (cap := 10) (by decide) (by decide) (by decide) (by decide)
  obtain ⟨b1, g1⟩ : ∃ z, z = h0.size := ⟨_, rfl⟩
  rw [← g1] at A1 st1
  have ne2 : u0 ≠ b1 := Nat.ne_of_lt (Nat.lt_of_lt_of_le P_E_u0.lt (Nat.le_of_eq g1.symm))
  have ne3 : tv ≠ b1 := Nat.ne_of_lt (Nat.lt_of_lt_of_le P_G_tv.lt (Nat.le_of_eq g1.symm))
  have o1 : n0 ≤ b1 := Nat.le_trans Z0 (Nat.le_of_eq g1.symm)
  have z1 : h0.size ≤ b1 := Nat.le_trans (Keep.refl h0 []).1 (Nat.le_of_eq g1.symm)
  have K1 : Keep h0 h1 [] := (Keep.refl h0 []).ext E1
  have V1 : Arv Z h1 b1 k1 .long (10 : Int32) [(.long (0 : Int64)), (.long (0 : Int64)), (.long (0 : Int64)), (.long (0 : Int64)), (.long (0 : Int64)), (.long (0 : Int64)), (.long (0 : Int64)), (.long (0 : Int64)), (.long (0 : Int64)), (.long (0 : Int64))] (.long (0 : Int64)) := (Arv.new A1 (by decide)).pad (pad_rep [] (.long (0 : Int64)) 10)
  obtain ⟨cl4, Ar4, qq4, S4, N4_, H4, G4⟩ := id V1
  have hin4 : ¬ ((0 : Int32) < 0 ∨ cl4.slots.size ≤ ((0 : Int32)).toNatClampNeg) := inb_of S4 ⟨by decide, by decide⟩
  obtain ⟨T5, h5, X5, e5, W5, st5⟩ := stJ X1 hx hZ e1 Ar4 (j := (0 : Int32)) hin4 (g := (mkF m 17 #[rv u0, iv p1, iv p2, .unset, .unset] [(.long (1 : Int64)), (.int (0 : Int32)), (.ref b1), (.ref b1)])) rfl rfl (oD hby D38 9 rfl)
  have V5 : Arv Z h5 b1 k1 .long (10 : Int32) [(.long (1 : Int64)), (.long (0 : Int64)), (.long (0 : Int64)), (.long (0 : Int64)), (.long (0 : Int64)), (.long (0 : Int64)), (.long (0 : Int64)), (.long (0 : Int64)), (.long (0 : Int64)), (.long (0 : Int64))] (.long (0 : Int64)) := Arv.set Ar4 qq4 S4 N4_ H4 G4 rfl W5 0 rfl (Nat.le_of_ble_eq_true rfl)
  have N6 := Fr.snoc X5 N0 o1
  have K7 : Keep h0 h5 [] := K1.wr W5 (Or.inr z1)
  obtain ⟨cl8, Ar8, qq8, S8, N8_, H8, G8⟩ := id V5
  have hin8 : ¬ ((1 : Int32) < 0 ∨ cl8.slots.size ≤ ((1 : Int32)).toNatClampNeg) := inb_of S8 ⟨by decide, by decide⟩
  obtain ⟨T9, h9, X9, e9, W9, st9⟩ := stJ X5 hx hZ e5 Ar8 (j := (1 : Int32)) hin8 (g := (mkF m 23 #[rv u0, iv p1, iv p2, .unset, .unset] [(.long (10 : Int64)), (.int (1 : Int32)), (.ref b1), (.ref b1)])) rfl rfl (oD hby D38 13 rfl)
  have V9 : Arv Z h9 b1 k1 .long (10 : Int32) [(.long (1 : Int64)), (.long (10 : Int64)), (.long (0 : Int64)), (.long (0 : Int64)), (.long (0 : Int64)), (.long (0 : Int64)), (.long (0 : Int64)), (.long (0 : Int64)), (.long (0 : Int64)), (.long (0 : Int64))] (.long (0 : Int64)) := Arv.set Ar8 qq8 S8 N8_ H8 G8 rfl W9 1 rfl (Nat.le_of_ble_eq_true rfl)
  have N10 := Fr.snoc X9 N6 o1
  have K11 : Keep h0 h9 [] := K7.wr W9 (Or.inr z1)
  obtain ⟨cl12, Ar12, qq12, S12, N12_, H12, G12⟩ := id V9
  have hin12 : ¬ ((2 : Int32) < 0 ∨ cl12.slots.size ≤ ((2 : Int32)).toNatClampNeg) := inb_of S12 ⟨by decide, by decide⟩
  obtain ⟨T13, h13, X13, e13, W13, st13⟩ := stJ X9 hx hZ e9 Ar12 (j := (2 : Int32)) hin12 (g := (mkF m 29 #[rv u0, iv p1, iv p2, .unset, .unset] [(.long (100 : Int64)), (.int (2 : Int32)), (.ref b1), (.ref b1)])) rfl rfl (oD hby D38 17 rfl)
  have V13 : Arv Z h13 b1 k1 .long (10 : Int32) [(.long (1 : Int64)), (.long (10 : Int64)), (.long (100 : Int64)), (.long (0 : Int64)), (.long (0 : Int64)), (.long (0 : Int64)), (.long (0 : Int64)), (.long (0 : Int64)), (.long (0 : Int64)), (.long (0 : Int64))] (.long (0 : Int64)) := Arv.set Ar12 qq12 S12 N12_ H12 G12 rfl W13 2 rfl (Nat.le_of_ble_eq_true rfl)
  have N14 := Fr.snoc X13 N10 o1
  have K15 : Keep h0 h13 [] := K11.wr W13 (Or.inr z1)
  obtain ⟨cl16, Ar16, qq16, S16, N16_, H16, G16⟩ := id V13
  have hin16 : ¬ ((3 : Int32) < 0 ∨ cl16.slots.size ≤ ((3 : Int32)).toNatClampNeg) := inb_of S16 ⟨by decide, by decide⟩
  obtain ⟨T17, h17, X17, e17, W17, st17⟩ := stJ X13 hx hZ e13 Ar16 (j := (3 : Int32)) hin16 (g := (mkF m 35 #[rv u0, iv p1, iv p2, .unset, .unset] [(.long (1000 : Int64)), (.int (3 : Int32)), (.ref b1), (.ref b1)])) rfl rfl (oD hby D38 21 rfl)
  have V17 : Arv Z h17 b1 k1 .long (10 : Int32) [(.long (1 : Int64)), (.long (10 : Int64)), (.long (100 : Int64)), (.long (1000 : Int64)), (.long (0 : Int64)), (.long (0 : Int64)), (.long (0 : Int64)), (.long (0 : Int64)), (.long (0 : Int64)), (.long (0 : Int64))] (.long (0 : Int64)) := Arv.set Ar16 qq16 S16 N16_ H16 G16 rfl W17 3 rfl (Nat.le_of_ble_eq_true rfl)
  have N18 := Fr.snoc X17 N14 o1
  have K19 : Keep h0 h17 [] := K15.wr W17 (Or.inr z1)
  obtain ⟨cl20, Ar20, qq20, S20, N20_, H20, G20⟩ := id V17
  have hin20 : ¬ ((4 : Int32) < 0 ∨ cl20.slots.size ≤ ((4 : Int32)).toNatClampNeg) := inb_of S20 ⟨by decide, by decide⟩
  obtain ⟨T21, h21, X21, e21, W21, st21⟩ := stJ X17 hx hZ e17 Ar20 (j := (4 : Int32)) hin20 (g := (mkF m 41 #[rv u0, iv p1, iv p2, .unset, .unset] [(.long (10000 : Int64)), (.int (4 : Int32)), (.ref b1), (.ref b1)])) rfl rfl (oD hby D38 25 rfl)
  have V21 : Arv Z h21 b1 k1 .long (10 : Int32) [(.long (1 : Int64)), (.long (10 : Int64)), (.long (100 : Int64)), (.long (1000 : Int64)), (.long (10000 : Int64)), (.long (0 : Int64)), (.long (0 : Int64)), (.long (0 : Int64)), (.long (0 : Int64)), (.long (0 : Int64))] (.long (0 : Int64)) := Arv.set Ar20 qq20 S20 N20_ H20 G20 rfl W21 4 rfl (Nat.le_of_ble_eq_true rfl)
  have N22 := Fr.snoc X21 N18 o1
  have K23 : Keep h0 h21 [] := K19.wr W21 (Or.inr z1)
  obtain ⟨cl24, Ar24, qq24, S24, N24_, H24, G24⟩ := id V21
  have hin24 : ¬ ((5 : Int32) < 0 ∨ cl24.slots.size ≤ ((5 : Int32)).toNatClampNeg) := inb_of S24 ⟨by decide, by decide⟩
  obtain ⟨T25, h25, X25, e25, W25, st25⟩ := stJ X21 hx hZ e21 Ar24 (j := (5 : Int32)) hin24 (g := (mkF m 47 #[rv u0, iv p1, iv p2, .unset, .unset] [(.long (100000 : Int64)), (.int (5 : Int32)), (.ref b1), (.ref b1)])) rfl rfl (oD hby D38 29 rfl)
  have V25 : Arv Z h25 b1 k1 .long (10 : Int32) [(.long (1 : Int64)), (.long (10 : Int64)), (.long (100 : Int64)), (.long (1000 : Int64)), (.long (10000 : Int64)), (.long (100000 : Int64)), (.long (0 : Int64)), (.long (0 : Int64)), (.long (0 : Int64)), (.long (0 : Int64))] (.long (0 : Int64)) := Arv.set Ar24 qq24 S24 N24_ H24 G24 rfl W25 5 rfl (Nat.le_of_ble_eq_true rfl)
  have N26 := Fr.snoc X25 N22 o1
  have K27 : Keep h0 h25 [] := K23.wr W25 (Or.inr z1)
  obtain ⟨cl28, Ar28, qq28, S28, N28_, H28, G28⟩ := id V25
  have hin28 : ¬ ((6 : Int32) < 0 ∨ cl28.slots.size ≤ ((6 : Int32)).toNatClampNeg) := inb_of S28 ⟨by decide, by decide⟩
  obtain ⟨T29, h29, X29, e29, W29, st29⟩ := stJ X25 hx hZ e25 Ar28 (j := (6 : Int32)) hin28 (g := (mkF m 54 #[rv u0, iv p1, iv p2, .unset, .unset] [(.long (1000000 : Int64)), (.int (6 : Int32)), (.ref b1), (.ref b1)])) rfl rfl (oD hby D38 33 rfl)
  have V29 : Arv Z h29 b1 k1 .long (10 : Int32) [(.long (1 : Int64)), (.long (10 : Int64)), (.long (100 : Int64)), (.long (1000 : Int64)), (.long (10000 : Int64)), (.long (100000 : Int64)), (.long (1000000 : Int64)), (.long (0 : Int64)), (.long (0 : Int64)), (.long (0 : Int64))] (.long (0 : Int64)) := Arv.set Ar28 qq28 S28 N28_ H28 G28 rfl W29 6 rfl (Nat.le_of_ble_eq_true rfl)
  have N30 := Fr.snoc X29 N26 o1
  have K31 : Keep h0 h29 [] := K27.wr W29 (Or.inr z1)
  obtain ⟨cl32, Ar32, qq32, S32, N32_, H32, G32⟩ := id V29
  have hin32 : ¬ ((7 : Int32) < 0 ∨ cl32.slots.size ≤ ((7 : Int32)).toNatClampNeg) := inb_of S32 ⟨by decide, by decide⟩
  obtain ⟨T33, h33, X33, e33, W33, st33⟩ := stJ X29 hx hZ e29 Ar32 (j := (7 : Int32)) hin32 (g := (mkF m 61 #[rv u0, iv p1, iv p2, .unset, .unset] [(.long (10000000 : Int64)), (.int (7 : Int32)), (.ref b1), (.ref b1)])) rfl rfl (oD hby D38 37 rfl)
  have V33 : Arv Z h33 b1 k1 .long (10 : Int32) [(.long (1 : Int64)), (.long (10 : Int64)), (.long (100 : Int64)), (.long (1000 : Int64)), (.long (10000 : Int64)), (.long (100000 : Int64)), (.long (1000000 : Int64)), (.long (10000000 : Int64)), (.long (0 : Int64)), (.long (0 : Int64))] (.long (0 : Int64)) := Arv.set Ar32 qq32 S32 N32_ H32 G32 rfl W33 7 rfl (Nat.le_of_ble_eq_true rfl)
  have N34 := Fr.snoc X33 N30 o1
  have K35 : Keep h0 h33 [] := K31.wr W33 (Or.inr z1)
  obtain ⟨cl36, Ar36, qq36, S36, N36_, H36, G36⟩ := id V33
  have hin36 : ¬ ((8 : Int32) < 0 ∨ cl36.slots.size ≤ ((8 : Int32)).toNatClampNeg) := inb_of S36 ⟨by decide, by decide⟩
  obtain ⟨T37, h37, X37, e37, W37, st37⟩ := stJ X33 hx hZ e33 Ar36 (j := (8 : Int32)) hin36 (g := (mkF m 68 #[rv u0, iv p1, iv p2, .unset, .unset] [(.long (100000000 : Int64)), (.int (8 : Int32)), (.ref b1), (.ref b1)])) rfl rfl (oD hby D38 41 rfl)
  have V37 : Arv Z h37 b1 k1 .long (10 : Int32) [(.long (1 : Int64)), (.long (10 : Int64)), (.long (100 : Int64)), (.long (1000 : Int64)), (.long (10000 : Int64)), (.long (100000 : Int64)), (.long (1000000 : Int64)), (.long (10000000 : Int64)), (.long (100000000 : Int64)), (.long (0 : Int64))] (.long (0 : Int64)) := Arv.set Ar36 qq36 S36 N36_ H36 G36 rfl W37 8 rfl (Nat.le_of_ble_eq_true rfl)
  have N38 := Fr.snoc X37 N34 o1
  have K39 : Keep h0 h37 [] := K35.wr W37 (Or.inr z1)
  obtain ⟨cl40, Ar40, qq40, S40, N40_, H40, G40⟩ := id V37
  have hin40 : ¬ ((9 : Int32) < 0 ∨ cl40.slots.size ≤ ((9 : Int32)).toNatClampNeg) := inb_of S40 ⟨by decide, by decide⟩
  obtain ⟨T41, h41, X41, e41, W41, st41⟩ := stJ X37 hx hZ e37 Ar40 (j := (9 : Int32)) hin40 (g := (mkF m 75 #[rv u0, iv p1, iv p2, .unset, .unset] [(.long (1000000000 : Int64)), (.int (9 : Int32)), (.ref b1), (.ref b1)])) rfl rfl (oD hby D38 45 rfl)
  have V41 : Arv Z h41 b1 k1 .long (10 : Int32) [(.long (1 : Int64)), (.long (10 : Int64)), (.long (100 : Int64)), (.long (1000 : Int64)), (.long (10000 : Int64)), (.long (100000 : Int64)), (.long (1000000 : Int64)), (.long (10000000 : Int64)), (.long (100000000 : Int64)), (.long (1000000000 : Int64))] (.long (0 : Int64)) := Arv.set Ar40 qq40 S40 N40_ H40 G40 rfl W41 9 rfl (Nat.le_of_ble_eq_true rfl)
  have N42 := Fr.snoc X41 N38 o1
  have K43 : Keep h0 h41 [] := K39.wr W41 (Or.inr z1)
  have pre44 : own_V p e below _ T41 (mkF m 80 #[rv u0, iv p1, iv p2, rv b1, iv (1 : Int32)] []) := fun t kt => pre0 t (by
   refine XS.iloadN X0.here hx rfl (oD hby D38 0 rfl) rfl ?_
   refine XS.ifNo X0.here hx rfl (oD hby D38 1 rfl) rfl ((if0 _ _).trans (flt (own_rP hrd)).1) ?_
   refine XS.iloadN X0.here hx rfl (oD hby D38 2 rfl) rfl ?_
   refine XS.ifYes X0.here hx rfl (pc0 := 5) (pc' := 10) rfl (oD hby D38 3 rfl) rfl ((if0 _ _).trans (flt hv).2.1) (by decide) (by decide) ?_
   refine XS.bipush X0.here hx rfl (oD hby D38 4 rfl) ?_
   refine st1 _ ?_
   refine XS.dup X1.here hx rfl (oD hby D38 6 rfl) rfl rfl ?_
   refine XS.iconst X1.here hx rfl (oD hby D38 7 rfl) ?_
   refine XS.lconst X1.here hx rfl (oD hby D38 8 rfl) ?_
   refine st5 _ ?_
   refine XS.dup X5.here hx rfl (oD hby D38 10 rfl) rfl rfl ?_
   refine XS.iconst X5.here hx rfl (oD hby D38 11 rfl) ?_
   refine X5.ldc2Long hx hown (mvT hZ (oG hw 218 rfl)) (g := (mkF m 20 #[rv u0, iv p1, iv p2, .unset, .unset] [(.int (1 : Int32)), (.ref b1), (.ref b1)])) rfl (oD hby D38 12 rfl) _ ?_
   refine st9 _ ?_
   refine XS.dup X9.here hx rfl (oD hby D38 14 rfl) rfl rfl ?_
   refine XS.iconst X9.here hx rfl (oD hby D38 15 rfl) ?_
   refine X9.ldc2Long hx hown (mvT hZ (oG hw 219 rfl)) (g := (mkF m 26 #[rv u0, iv p1, iv p2, .unset, .unset] [(.int (2 : Int32)), (.ref b1), (.ref b1)])) rfl (oD hby D38 16 rfl) _ ?_
   refine st13 _ ?_
   refine XS.dup X13.here hx rfl (oD hby D38 18 rfl) rfl rfl ?_
   refine XS.iconst X13.here hx rfl (oD hby D38 19 rfl) ?_
   refine X13.ldc2Long hx hown (mvT hZ (oG hw 220 rfl)) (g := (mkF m 32 #[rv u0, iv p1, iv p2, .unset, .unset] [(.int (3 : Int32)), (.ref b1), (.ref b1)])) rfl (oD hby D38 20 rfl) _ ?_
   refine st17 _ ?_
   refine XS.dup X17.here hx rfl (oD hby D38 22 rfl) rfl rfl ?_
   show Steps _ _ _ (T17.setTop (mkF m 37 #[rv u0, iv p1, iv p2, .unset, .unset] [(.ref b1), (.ref b1)])) _
   refine XS.iconst X17.here hx rfl (oD hby D38 23 rfl) ?_
   refine X17.ldc2Long hx hown (mvT hZ (oG hw 221 rfl)) (g := (mkF m 38 #[rv u0, iv p1, iv p2, .unset, .unset] [(.int (4 : Int32)), (.ref b1), (.ref b1)])) rfl (oD hby D38 24 rfl) _ ?_
   refine st21 _ ?_
   refine XS.dup X21.here hx rfl (oD hby D38 26 rfl) rfl rfl ?_
   refine XS.iconst X21.here hx rfl (oD hby D38 27 rfl) ?_
   refine X21.ldc2Long hx hown (mvT hZ (oG hw 222 rfl)) (g := (mkF m 44 #[rv u0, iv p1, iv p2, .unset, .unset] [(.int (5 : Int32)), (.ref b1), (.ref b1)])) rfl (oD hby D38 28 rfl) _ ?_
   refine st25 _ ?_
   refine XS.dup X25.here hx rfl (oD hby D38 30 rfl) rfl rfl ?_
   refine XS.bipush X25.here hx rfl (oD hby D38 31 rfl) ?_
   refine X25.ldc2Long hx hown (mvT hZ (oG hw 223 rfl)) (g := (mkF m 51 #[rv u0, iv p1, iv p2, .unset, .unset] [(.int (6 : Int32)), (.ref b1), (.ref b1)])) rfl (oD hby D38 32 rfl) _ ?_
   refine st29 _ ?_
   refine XS.dup X29.here hx rfl (oD hby D38 34 rfl) rfl rfl ?_
   refine XS.bipush X29.here hx rfl (oD hby D38 35 rfl) ?_
   refine X29.ldc2Long hx hown (mvT hZ (oG hw 224 rfl)) (g := (mkF m 58 #[rv u0, iv p1, iv p2, .unset, .unset] [(.int (7 : Int32)), (.ref b1), (.ref b1)])) rfl (oD hby D38 36 rfl) _ ?_
   refine st33 _ ?_
   refine XS.dup X33.here hx rfl (oD hby D38 38 rfl) rfl rfl ?_
   refine XS.bipush X33.here hx rfl (oD hby D38 39 rfl) ?_
   refine X33.ldc2Long hx hown (mvT hZ (oG hw 225 rfl)) (g := (mkF m 65 #[rv u0, iv p1, iv p2, .unset, .unset] [(.int (8 : Int32)), (.ref b1), (.ref b1)])) rfl (oD hby D38 40 rfl) _ ?_
   refine st37 _ ?_
   refine XS.dup X37.here hx rfl (oD hby D38 42 rfl) rfl rfl ?_
   refine XS.bipush X37.here hx rfl (oD hby D38 43 rfl) ?_
   refine X37.ldc2Long hx hown (mvT hZ (oG hw 226 rfl)) (g := (mkF m 72 #[rv u0, iv p1, iv p2, .unset, .unset] [(.int (9 : Int32)), (.ref b1), (.ref b1)])) rfl (oD hby D38 44 rfl) _ ?_
   refine st41 _ ?_
   refine XS.astoreN X41.here hx rfl (oD hby D38 46 rfl) rfl rfl rfl ?_
   show Steps _ _ _ (T41.setTop (mkF m 77 #[rv u0, iv p1, iv p2, rv b1, .unset] [])) _
   refine XS.iconst X41.here hx rfl (oD hby D38 47 rfl) ?_
   refine XS.istore X41.here hx rfl (oD hby D38 48 rfl) rfl rfl ?_
   exact kt)
  have f45 := (Nat.le_trans (Nat.le_trans (Nat.le_trans (Nat.le_trans (Nat.le_trans (Nat.le_trans (Nat.le_trans (Nat.le_trans (Nat.le_trans (Nat.le_trans (Nat.le_trans Z0 E1.1) (Keep.of_wr W5).1) (Keep.of_wr W9).1) (Keep.of_wr W13).1) (Keep.of_wr W17).1) (Keep.of_wr W21).1) (Keep.of_wr W25).1) (Keep.of_wr W29).1) (Keep.of_wr W33).1) (Keep.of_wr W37).1) (Keep.of_wr W41).1)
  have f46 := (((((((((((P_E_u0.ext E1).wr W5).wr W9).wr W13).wr W17).wr W21).wr W25).wr W29).wr W33).wr W37).wr W41)
  have f47 := (((((((((((P_F_u0_String_value.ext E1).other W5 (Or.inl ne2)).other W9 (Or.inl ne2)).other W13 (Or.inl ne2)).other W17 (Or.inl ne2)).other W21 (Or.inl ne2)).other W25 (Or.inl ne2)).other W29 (Or.inl ne2)).other W33 (Or.inl ne2)).other W37 (Or.inl ne2)).other W41 (Or.inl ne2))
  have f48 := (((((((((((P_F_u0_String_coder.ext E1).other W5 (Or.inl ne2)).other W9 (Or.inl ne2)).other W13 (Or.inl ne2)).other W17 (Or.inl ne2)).other W21 (Or.inl ne2)).other W25 (Or.inl ne2)).other W29 (Or.inl ne2)).other W33 (Or.inl ne2)).other W37 (Or.inl ne2)).other W41 (Or.inl ne2))
  have f49 := (((((((((((P_G_tv.ext E1).other W5 ne3).other W9 ne3).other W13 ne3).other W17 ne3).other W21 ne3).other W25 ne3).other W29 ne3).other W33 ne3).other W37 ne3).other W41 ne3)
  have f50 := (((((((((((P_S_String_COMPACT_STRINGS.ext E1).wr W5).wr W9).wr W13).wr W17).wr W21).wr W25).wr W29).wr W33).wr W37).wr W41)
  have f51 := (((((((((((P_S_Preconditions_SIOOBE_FORMATTER.ext E1).wr W5).wr W9).wr W13).wr W17).wr W21).wr W25).wr W29).wr W33).wr W37).wr W41)
  have Mg80 : ∃ (T80 : State) (L80 : List Loc) (x80_L4 : Int32), Stand p l e ({ frames := 5, cells := 1, slots := 10, locals := 73 } : Room) s m #[(.ref u0), (.int p1), (.int p2)] below meth c T80 L80 1 10 ∧ Fr n0 L80 ∧ T80.heap = h41 ∧ x80_L4 = (own_ni p2) ∧ own_V p e below (s₁.setTop (entryFrame m #[(.ref u0), (.int p1), (.int p2)] 5)) T80 (mkF m 168 #[rv u0, iv p1, iv p2, rv b1, iv x80_L4] []) := by
    have pre53 : own_V p e below _ T41 (mkF m 83 #[rv u0, iv p1, iv p2, rv b1, iv (1 : Int32)] [(.int (10 : Int32)), (.int p2)]) := fun t kt => pre44 t (by
     refine XS.iloadN X41.here hx rfl (oD hby D38 49 rfl) rfl ?_
     refine XS.bipush X41.here hx rfl (oD hby D38 50 rfl) ?_
     exact kt)
    by_cases hc83_52 : p2 < (10 : Int32)
    · have pre54 : own_V p e below _ T41 (mkF m 168 #[rv u0, iv p1, iv p2, rv b1, iv (1 : Int32)] []) := fun t kt => pre53 t (by
       refine XS.icmpYes X41.here hx rfl (pc0 := 83) (pc' := 89) rfl (oD hby D38 51 rfl) rfl (tlt hc83_52).1 (by decide) (by decide) ?_
       refine XS.iloadN X41.here hx rfl (oD hby D38 52 rfl) rfl ?_
       refine XS.bipush X41.here hx rfl (oD hby D38 53 rfl) ?_
       refine XS.icmpYes X41.here hx rfl (pc0 := 92) (pc' := 98) rfl (oD hby D38 54 rfl) rfl (tlt (own_ltt hc83_52 (by decide))).1 (by decide) (by decide) ?_
       refine XS.iloadN X41.here hx rfl (oD hby D38 55 rfl) rfl ?_
       refine XS.sipush X41.here hx rfl (oD hby D38 56 rfl) ?_
       refine XS.icmpYes X41.here hx rfl (pc0 := 102) (pc' := 108) rfl (oD hby D38 57 rfl) rfl (tlt (own_ltt hc83_52 (by decide))).1 (by decide) (by decide) ?_
       refine XS.iloadN X41.here hx rfl (oD hby D38 58 rfl) rfl ?_
       refine XS.sipush X41.here hx rfl (oD hby D38 59 rfl) ?_
       refine XS.icmpYes X41.here hx rfl (pc0 := 112) (pc' := 118) rfl (oD hby D38 60 rfl) rfl (tlt (own_ltt hc83_52 (by decide))).1 (by decide) (by decide) ?_
       refine XS.iloadN X41.here hx rfl (oD hby D38 61 rfl) rfl ?_
       refine X41.ldcInt hx hown (mvT hZ (oG hw 227 rfl)) (g := (mkF m 119 #[rv u0, iv p1, iv p2, rv b1, iv (1 : Int32)] [(.int p2)])) rfl (oD hby D38 62 rfl) _ ?_
       refine XS.icmpYes X41.here hx rfl (pc0 := 121) (pc' := 128) rfl (oD hby D38 63 rfl) rfl (tlt (own_ltt hc83_52 (by decide))).1 (by decide) (by decide) ?_
       refine XS.iloadN X41.here hx rfl (oD hby D38 64 rfl) rfl ?_
       refine X41.ldcInt hx hown (mvT hZ (oG hw 228 rfl)) (g := (mkF m 129 #[rv u0, iv p1, iv p2, rv b1, iv (1 : Int32)] [(.int p2)])) rfl (oD hby D38 65 rfl) _ ?_
       refine XS.icmpYes X41.here hx rfl (pc0 := 131) (pc' := 138) rfl (oD hby D38 66 rfl) rfl (tlt (own_ltt hc83_52 (by decide))).1 (by decide) (by decide) ?_
       refine XS.iloadN X41.here hx rfl (oD hby D38 67 rfl) rfl ?_
       refine X41.ldcInt hx hown (mvT hZ (oG hw 229 rfl)) (g := (mkF m 139 #[rv u0, iv p1, iv p2, rv b1, iv (1 : Int32)] [(.int p2)])) rfl (oD hby D38 68 rfl) _ ?_
       refine XS.icmpYes X41.here hx rfl (pc0 := 141) (pc' := 148) rfl (oD hby D38 69 rfl) rfl (tlt (own_ltt hc83_52 (by decide))).1 (by decide) (by decide) ?_
       refine XS.iloadN X41.here hx rfl (oD hby D38 70 rfl) rfl ?_
       show Steps _ _ _ (T41.setTop (mkF m 149 #[rv u0, iv p1, iv p2, rv b1, iv (1 : Int32)] [(.int p2)])) _
       refine X41.ldcInt hx hown (mvT hZ (oG hw 230 rfl)) (g := (mkF m 149 #[rv u0, iv p1, iv p2, rv b1, iv (1 : Int32)] [(.int p2)])) rfl (oD hby D38 71 rfl) _ ?_
       refine XS.icmpYes X41.here hx rfl (pc0 := 151) (pc' := 158) rfl (oD hby D38 72 rfl) rfl (tlt (own_ltt hc83_52 (by decide))).1 (by decide) (by decide) ?_
       refine XS.iloadN X41.here hx rfl (oD hby D38 73 rfl) rfl ?_
       refine X41.ldcInt hx hown (mvT hZ (oG hw 231 rfl)) (g := (mkF m 159 #[rv u0, iv p1, iv p2, rv b1, iv (1 : Int32)] [(.int p2)])) rfl (oD hby D38 74 rfl) _ ?_
       refine XS.icmpYes X41.here hx rfl (pc0 := 161) (pc' := 168) rfl (oD hby D38 75 rfl) rfl (tlt (own_ltt hc83_52 (by decide))).1 (by decide) (by decide) ?_
       exact kt)
      exact ⟨T41, _, (1 : Int32), X41.more (by decide) (by decide), N42, e41, (own_nu1 hc83_52), pre54⟩
    · have pre56 : own_V p e below _ T41 (mkF m 92 #[rv u0, iv p1, iv p2, rv b1, iv (2 : Int32)] [(.int (100 : Int32)), (.int p2)]) := fun t kt => pre53 t (by
       refine XS.icmpNo X41.here hx rfl (oD hby D38 51 rfl) rfl (flt hc83_52).1 ?_
       refine XS.iconst X41.here hx rfl (oD hby D38 76 rfl) ?_
       refine XS.istore X41.here hx rfl (oD hby D38 77 rfl) rfl rfl ?_
       refine XS.iloadN X41.here hx rfl (oD hby D38 52 rfl) rfl ?_
       refine XS.bipush X41.here hx rfl (oD hby D38 53 rfl) ?_
       exact kt)
      by_cases hc92_55 : p2 < (100 : Int32)
      · have pre57 : own_V p e below _ T41 (mkF m 168 #[rv u0, iv p1, iv p2, rv b1, iv (2 : Int32)] []) := fun t kt => pre56 t (by
         refine XS.icmpYes X41.here hx rfl (pc0 := 92) (pc' := 98) rfl (oD hby D38 54 rfl) rfl (tlt hc92_55).1 (by decide) (by decide) ?_
         refine XS.iloadN X41.here hx rfl (oD hby D38 55 rfl) rfl ?_
         refine XS.sipush X41.here hx rfl (oD hby D38 56 rfl) ?_
         refine XS.icmpYes X41.here hx rfl (pc0 := 102) (pc' := 108) rfl (oD hby D38 57 rfl) rfl (tlt (own_ltt hc92_55 (by decide))).1 (by decide) (by decide) ?_
         refine XS.iloadN X41.here hx rfl (oD hby D38 58 rfl) rfl ?_
         refine XS.sipush X41.here hx rfl (oD hby D38 59 rfl) ?_
         refine XS.icmpYes X41.here hx rfl (pc0 := 112) (pc' := 118) rfl (oD hby D38 60 rfl) rfl (tlt (own_ltt hc92_55 (by decide))).1 (by decide) (by decide) ?_
         refine XS.iloadN X41.here hx rfl (oD hby D38 61 rfl) rfl ?_
         refine X41.ldcInt hx hown (mvT hZ (oG hw 227 rfl)) (g := (mkF m 119 #[rv u0, iv p1, iv p2, rv b1, iv (2 : Int32)] [(.int p2)])) rfl (oD hby D38 62 rfl) _ ?_
         refine XS.icmpYes X41.here hx rfl (pc0 := 121) (pc' := 128) rfl (oD hby D38 63 rfl) rfl (tlt (own_ltt hc92_55 (by decide))).1 (by decide) (by decide) ?_
         refine XS.iloadN X41.here hx rfl (oD hby D38 64 rfl) rfl ?_
         refine X41.ldcInt hx hown (mvT hZ (oG hw 228 rfl)) (g := (mkF m 129 #[rv u0, iv p1, iv p2, rv b1, iv (2 : Int32)] [(.int p2)])) rfl (oD hby D38 65 rfl) _ ?_
         refine XS.icmpYes X41.here hx rfl (pc0 := 131) (pc' := 138) rfl (oD hby D38 66 rfl) rfl (tlt (own_ltt hc92_55 (by decide))).1 (by decide) (by decide) ?_
         refine XS.iloadN X41.here hx rfl (oD hby D38 67 rfl) rfl ?_
         show Steps _ _ _ (T41.setTop (mkF m 139 #[rv u0, iv p1, iv p2, rv b1, iv (2 : Int32)] [(.int p2)])) _
         refine X41.ldcInt hx hown (mvT hZ (oG hw 229 rfl)) (g := (mkF m 139 #[rv u0, iv p1, iv p2, rv b1, iv (2 : Int32)] [(.int p2)])) rfl (oD hby D38 68 rfl) _ ?_
         refine XS.icmpYes X41.here hx rfl (pc0 := 141) (pc' := 148) rfl (oD hby D38 69 rfl) rfl (tlt (own_ltt hc92_55 (by decide))).1 (by decide) (by decide) ?_
         refine XS.iloadN X41.here hx rfl (oD hby D38 70 rfl) rfl ?_
         refine X41.ldcInt hx hown (mvT hZ (oG hw 230 rfl)) (g := (mkF m 149 #[rv u0, iv p1, iv p2, rv b1, iv (2 : Int32)] [(.int p2)])) rfl (oD hby D38 71 rfl) _ ?_
         refine XS.icmpYes X41.here hx rfl (pc0 := 151) (pc' := 158) rfl (oD hby D38 72 rfl) rfl (tlt (own_ltt hc92_55 (by decide))).1 (by decide) (by decide) ?_
         refine XS.iloadN X41.here hx rfl (oD hby D38 73 rfl) rfl ?_
         refine X41.ldcInt hx hown (mvT hZ (oG hw 231 rfl)) (g := (mkF m 159 #[rv u0, iv p1, iv p2, rv b1, iv (2 : Int32)] [(.int p2)])) rfl (oD hby D38 74 rfl) _ ?_
         refine XS.icmpYes X41.here hx rfl (pc0 := 161) (pc' := 168) rfl (oD hby D38 75 rfl) rfl (tlt (own_ltt hc92_55 (by decide))).1 (by decide) (by decide) ?_
         exact kt)
        exact ⟨T41, _, (2 : Int32), X41.more (by decide) (by decide), N42, e41, (own_nu2 hc83_52 hc92_55), pre57⟩
      · have pre59 : own_V p e below _ T41 (mkF m 102 #[rv u0, iv p1, iv p2, rv b1, iv (3 : Int32)] [(.int (1000 : Int32)), (.int p2)]) := fun t kt => pre56 t (by
         refine XS.icmpNo X41.here hx rfl (oD hby D38 54 rfl) rfl (flt hc92_55).1 ?_
         refine XS.iconst X41.here hx rfl (oD hby D38 78 rfl) ?_
         refine XS.istore X41.here hx rfl (oD hby D38 79 rfl) rfl rfl ?_
         refine XS.iloadN X41.here hx rfl (oD hby D38 55 rfl) rfl ?_
         refine XS.sipush X41.here hx rfl (oD hby D38 56 rfl) ?_
         exact kt)
        by_cases hc102_58 : p2 < (1000 : Int32)
        · have pre60 : own_V p e below _ T41 (mkF m 168 #[rv u0, iv p1, iv p2, rv b1, iv (3 : Int32)] []) := fun t kt => pre59 t (by
           refine XS.icmpYes X41.here hx rfl (pc0 := 102) (pc' := 108) rfl (oD hby D38 57 rfl) rfl (tlt hc102_58).1 (by decide) (by decide) ?_
           refine XS.iloadN X41.here hx rfl (oD hby D38 58 rfl) rfl ?_
           refine XS.sipush X41.here hx rfl (oD hby D38 59 rfl) ?_
           refine XS.icmpYes X41.here hx rfl (pc0 := 112) (pc' := 118) rfl (oD hby D38 60 rfl) rfl (tlt (own_ltt hc102_58 (by decide))).1 (by decide) (by decide) ?_
           refine XS.iloadN X41.here hx rfl (oD hby D38 61 rfl) rfl ?_
           refine X41.ldcInt hx hown (mvT hZ (oG hw 227 rfl)) (g := (mkF m 119 #[rv u0, iv p1, iv p2, rv b1, iv (3 : Int32)] [(.int p2)])) rfl (oD hby D38 62 rfl) _ ?_
           refine XS.icmpYes X41.here hx rfl (pc0 := 121) (pc' := 128) rfl (oD hby D38 63 rfl) rfl (tlt (own_ltt hc102_58 (by decide))).1 (by decide) (by decide) ?_
           refine XS.iloadN X41.here hx rfl (oD hby D38 64 rfl) rfl ?_
           refine X41.ldcInt hx hown (mvT hZ (oG hw 228 rfl)) (g := (mkF m 129 #[rv u0, iv p1, iv p2, rv b1, iv (3 : Int32)] [(.int p2)])) rfl (oD hby D38 65 rfl) _ ?_
           refine XS.icmpYes X41.here hx rfl (pc0 := 131) (pc' := 138) rfl (oD hby D38 66 rfl) rfl (tlt (own_ltt hc102_58 (by decide))).1 (by decide) (by decide) ?_
           refine XS.iloadN X41.here hx rfl (oD hby D38 67 rfl) rfl ?_
           show Steps _ _ _ (T41.setTop (mkF m 139 #[rv u0, iv p1, iv p2, rv b1, iv (3 : Int32)] [(.int p2)])) _
           refine X41.ldcInt hx hown (mvT hZ (oG hw 229 rfl)) (g := (mkF m 139 #[rv u0, iv p1, iv p2, rv b1, iv (3 : Int32)] [(.int p2)])) rfl (oD hby D38 68 rfl) _ ?_
           refine XS.icmpYes X41.here hx rfl (pc0 := 141) (pc' := 148) rfl (oD hby D38 69 rfl) rfl (tlt (own_ltt hc102_58 (by decide))).1 (by decide) (by decide) ?_
           refine XS.iloadN X41.here hx rfl (oD hby D38 70 rfl) rfl ?_
           refine X41.ldcInt hx hown (mvT hZ (oG hw 230 rfl)) (g := (mkF m 149 #[rv u0, iv p1, iv p2, rv b1, iv (3 : Int32)] [(.int p2)])) rfl (oD hby D38 71 rfl) _ ?_
           refine XS.icmpYes X41.here hx rfl (pc0 := 151) (pc' := 158) rfl (oD hby D38 72 rfl) rfl (tlt (own_ltt hc102_58 (by decide))).1 (by decide) (by decide) ?_
           refine XS.iloadN X41.here hx rfl (oD hby D38 73 rfl) rfl ?_
           refine X41.ldcInt hx hown (mvT hZ (oG hw 231 rfl)) (g := (mkF m 159 #[rv u0, iv p1, iv p2, rv b1, iv (3 : Int32)] [(.int p2)])) rfl (oD hby D38 74 rfl) _ ?_
           refine XS.icmpYes X41.here hx rfl (pc0 := 161) (pc' := 168) rfl (oD hby D38 75 rfl) rfl (tlt (own_ltt hc102_58 (by decide))).1 (by decide) (by decide) ?_
           exact kt)
          exact ⟨T41, _, (3 : Int32), X41.more (by decide) (by decide), N42, e41, (own_nu3 hc92_55 hc102_58), pre60⟩
        · have pre62 : own_V p e below _ T41 (mkF m 112 #[rv u0, iv p1, iv p2, rv b1, iv (4 : Int32)] [(.int (10000 : Int32)), (.int p2)]) := fun t kt => pre59 t (by
           refine XS.icmpNo X41.here hx rfl (oD hby D38 57 rfl) rfl (flt hc102_58).1 ?_
           refine XS.iconst X41.here hx rfl (oD hby D38 80 rfl) ?_
           refine XS.istore X41.here hx rfl (oD hby D38 81 rfl) rfl rfl ?_
           refine XS.iloadN X41.here hx rfl (oD hby D38 58 rfl) rfl ?_
           refine XS.sipush X41.here hx rfl (oD hby D38 59 rfl) ?_
           exact kt)
          by_cases hc112_61 : p2 < (10000 : Int32)
          · have pre63 : own_V p e below _ T41 (mkF m 168 #[rv u0, iv p1, iv p2, rv b1, iv (4 : Int32)] []) := fun t kt => pre62 t (by
             refine XS.icmpYes X41.here hx rfl (pc0 := 112) (pc' := 118) rfl (oD hby D38 60 rfl) rfl (tlt hc112_61).1 (by decide) (by decide) ?_
             refine XS.iloadN X41.here hx rfl (oD hby D38 61 rfl) rfl ?_
             refine X41.ldcInt hx hown (mvT hZ (oG hw 227 rfl)) (g := (mkF m 119 #[rv u0, iv p1, iv p2, rv b1, iv (4 : Int32)] [(.int p2)])) rfl (oD hby D38 62 rfl) _ ?_
             refine XS.icmpYes X41.here hx rfl (pc0 := 121) (pc' := 128) rfl (oD hby D38 63 rfl) rfl (tlt (own_ltt hc112_61 (by decide))).1 (by decide) (by decide) ?_
             refine XS.iloadN X41.here hx rfl (oD hby D38 64 rfl) rfl ?_
             refine X41.ldcInt hx hown (mvT hZ (oG hw 228 rfl)) (g := (mkF m 129 #[rv u0, iv p1, iv p2, rv b1, iv (4 : Int32)] [(.int p2)])) rfl (oD hby D38 65 rfl) _ ?_
             refine XS.icmpYes X41.here hx rfl (pc0 := 131) (pc' := 138) rfl (oD hby D38 66 rfl) rfl (tlt (own_ltt hc112_61 (by decide))).1 (by decide) (by decide) ?_
             refine XS.iloadN X41.here hx rfl (oD hby D38 67 rfl) rfl ?_
             refine X41.ldcInt hx hown (mvT hZ (oG hw 229 rfl)) (g := (mkF m 139 #[rv u0, iv p1, iv p2, rv b1, iv (4 : Int32)] [(.int p2)])) rfl (oD hby D38 68 rfl) _ ?_
             refine XS.icmpYes X41.here hx rfl (pc0 := 141) (pc' := 148) rfl (oD hby D38 69 rfl) rfl (tlt (own_ltt hc112_61 (by decide))).1 (by decide) (by decide) ?_
             refine XS.iloadN X41.here hx rfl (oD hby D38 70 rfl) rfl ?_
             show Steps _ _ _ (T41.setTop (mkF m 149 #[rv u0, iv p1, iv p2, rv b1, iv (4 : Int32)] [(.int p2)])) _
             refine X41.ldcInt hx hown (mvT hZ (oG hw 230 rfl)) (g := (mkF m 149 #[rv u0, iv p1, iv p2, rv b1, iv (4 : Int32)] [(.int p2)])) rfl (oD hby D38 71 rfl) _ ?_
             refine XS.icmpYes X41.here hx rfl (pc0 := 151) (pc' := 158) rfl (oD hby D38 72 rfl) rfl (tlt (own_ltt hc112_61 (by decide))).1 (by decide) (by decide) ?_
             refine XS.iloadN X41.here hx rfl (oD hby D38 73 rfl) rfl ?_
             refine X41.ldcInt hx hown (mvT hZ (oG hw 231 rfl)) (g := (mkF m 159 #[rv u0, iv p1, iv p2, rv b1, iv (4 : Int32)] [(.int p2)])) rfl (oD hby D38 74 rfl) _ ?_
             refine XS.icmpYes X41.here hx rfl (pc0 := 161) (pc' := 168) rfl (oD hby D38 75 rfl) rfl (tlt (own_ltt hc112_61 (by decide))).1 (by decide) (by decide) ?_
             exact kt)
            exact ⟨T41, _, (4 : Int32), X41.more (by decide) (by decide), N42, e41, (own_nu4 hc102_58 hc112_61), pre63⟩
          · have pre65 : own_V p e below _ T41 (mkF m 121 #[rv u0, iv p1, iv p2, rv b1, iv (5 : Int32)] [(.int (100000 : Int32)), (.int p2)]) := fun t kt => pre62 t (by
             refine XS.icmpNo X41.here hx rfl (oD hby D38 60 rfl) rfl (flt hc112_61).1 ?_
             refine XS.iconst X41.here hx rfl (oD hby D38 82 rfl) ?_
             refine XS.istore X41.here hx rfl (oD hby D38 83 rfl) rfl rfl ?_
             refine XS.iloadN X41.here hx rfl (oD hby D38 61 rfl) rfl ?_
             refine X41.ldcInt hx hown (mvT hZ (oG hw 227 rfl)) (g := (mkF m 119 #[rv u0, iv p1, iv p2, rv b1, iv (5 : Int32)] [(.int p2)])) rfl (oD hby D38 62 rfl) _ ?_
             exact kt)
            by_cases hc121_64 : p2 < (100000 : Int32)
            · have pre66 : own_V p e below _ T41 (mkF m 168 #[rv u0, iv p1, iv p2, rv b1, iv (5 : Int32)] []) := fun t kt => pre65 t (by
               refine XS.icmpYes X41.here hx rfl (pc0 := 121) (pc' := 128) rfl (oD hby D38 63 rfl) rfl (tlt hc121_64).1 (by decide) (by decide) ?_
               refine XS.iloadN X41.here hx rfl (oD hby D38 64 rfl) rfl ?_
               refine X41.ldcInt hx hown (mvT hZ (oG hw 228 rfl)) (g := (mkF m 129 #[rv u0, iv p1, iv p2, rv b1, iv (5 : Int32)] [(.int p2)])) rfl (oD hby D38 65 rfl) _ ?_
               refine XS.icmpYes X41.here hx rfl (pc0 := 131) (pc' := 138) rfl (oD hby D38 66 rfl) rfl (tlt (own_ltt hc121_64 (by decide))).1 (by decide) (by decide) ?_
               refine XS.iloadN X41.here hx rfl (oD hby D38 67 rfl) rfl ?_
               refine X41.ldcInt hx hown (mvT hZ (oG hw 229 rfl)) (g := (mkF m 139 #[rv u0, iv p1, iv p2, rv b1, iv (5 : Int32)] [(.int p2)])) rfl (oD hby D38 68 rfl) _ ?_
               refine XS.icmpYes X41.here hx rfl (pc0 := 141) (pc' := 148) rfl (oD hby D38 69 rfl) rfl (tlt (own_ltt hc121_64 (by decide))).1 (by decide) (by decide) ?_
               refine XS.iloadN X41.here hx rfl (oD hby D38 70 rfl) rfl ?_
               refine X41.ldcInt hx hown (mvT hZ (oG hw 230 rfl)) (g := (mkF m 149 #[rv u0, iv p1, iv p2, rv b1, iv (5 : Int32)] [(.int p2)])) rfl (oD hby D38 71 rfl) _ ?_
               refine XS.icmpYes X41.here hx rfl (pc0 := 151) (pc' := 158) rfl (oD hby D38 72 rfl) rfl (tlt (own_ltt hc121_64 (by decide))).1 (by decide) (by decide) ?_
               refine XS.iloadN X41.here hx rfl (oD hby D38 73 rfl) rfl ?_
               refine X41.ldcInt hx hown (mvT hZ (oG hw 231 rfl)) (g := (mkF m 159 #[rv u0, iv p1, iv p2, rv b1, iv (5 : Int32)] [(.int p2)])) rfl (oD hby D38 74 rfl) _ ?_
               refine XS.icmpYes X41.here hx rfl (pc0 := 161) (pc' := 168) rfl (oD hby D38 75 rfl) rfl (tlt (own_ltt hc121_64 (by decide))).1 (by decide) (by decide) ?_
               exact kt)
              exact ⟨T41, _, (5 : Int32), X41.more (by decide) (by decide), N42, e41, (own_nu5 hc112_61 hc121_64), pre66⟩
            · have pre68 : own_V p e below _ T41 (mkF m 131 #[rv u0, iv p1, iv p2, rv b1, iv (6 : Int32)] [(.int (1000000 : Int32)), (.int p2)]) := fun t kt => pre65 t (by
               refine XS.icmpNo X41.here hx rfl (oD hby D38 63 rfl) rfl (flt hc121_64).1 ?_
               show Steps _ _ _ (T41.setTop (mkF m 124 #[rv u0, iv p1, iv p2, rv b1, iv (5 : Int32)] [])) _
               refine XS.bipush X41.here hx rfl (oD hby D38 84 rfl) ?_
               refine XS.istore X41.here hx rfl (oD hby D38 85 rfl) rfl rfl ?_
               refine XS.iloadN X41.here hx rfl (oD hby D38 64 rfl) rfl ?_
               refine X41.ldcInt hx hown (mvT hZ (oG hw 228 rfl)) (g := (mkF m 129 #[rv u0, iv p1, iv p2, rv b1, iv (6 : Int32)] [(.int p2)])) rfl (oD hby D38 65 rfl) _ ?_
               exact kt)
              by_cases hc131_67 : p2 < (1000000 : Int32)
              · have pre69 : own_V p e below _ T41 (mkF m 168 #[rv u0, iv p1, iv p2, rv b1, iv (6 : Int32)] []) := fun t kt => pre68 t (by
                 refine XS.icmpYes X41.here hx rfl (pc0 := 131) (pc' := 138) rfl (oD hby D38 66 rfl) rfl (tlt hc131_67).1 (by decide) (by decide) ?_
                 refine XS.iloadN X41.here hx rfl (oD hby D38 67 rfl) rfl ?_
                 refine X41.ldcInt hx hown (mvT hZ (oG hw 229 rfl)) (g := (mkF m 139 #[rv u0, iv p1, iv p2, rv b1, iv (6 : Int32)] [(.int p2)])) rfl (oD hby D38 68 rfl) _ ?_
                 refine XS.icmpYes X41.here hx rfl (pc0 := 141) (pc' := 148) rfl (oD hby D38 69 rfl) rfl (tlt (own_ltt hc131_67 (by decide))).1 (by decide) (by decide) ?_
                 refine XS.iloadN X41.here hx rfl (oD hby D38 70 rfl) rfl ?_
                 refine X41.ldcInt hx hown (mvT hZ (oG hw 230 rfl)) (g := (mkF m 149 #[rv u0, iv p1, iv p2, rv b1, iv (6 : Int32)] [(.int p2)])) rfl (oD hby D38 71 rfl) _ ?_
                 refine XS.icmpYes X41.here hx rfl (pc0 := 151) (pc' := 158) rfl (oD hby D38 72 rfl) rfl (tlt (own_ltt hc131_67 (by decide))).1 (by decide) (by decide) ?_
                 refine XS.iloadN X41.here hx rfl (oD hby D38 73 rfl) rfl ?_
                 refine X41.ldcInt hx hown (mvT hZ (oG hw 231 rfl)) (g := (mkF m 159 #[rv u0, iv p1, iv p2, rv b1, iv (6 : Int32)] [(.int p2)])) rfl (oD hby D38 74 rfl) _ ?_
                 refine XS.icmpYes X41.here hx rfl (pc0 := 161) (pc' := 168) rfl (oD hby D38 75 rfl) rfl (tlt (own_ltt hc131_67 (by decide))).1 (by decide) (by decide) ?_
                 exact kt)
                exact ⟨T41, _, (6 : Int32), X41.more (by decide) (by decide), N42, e41, (own_nu6 hc121_64 hc131_67), pre69⟩
              · have pre71 : own_V p e below _ T41 (mkF m 141 #[rv u0, iv p1, iv p2, rv b1, iv (7 : Int32)] [(.int (10000000 : Int32)), (.int p2)]) := fun t kt => pre68 t (by
                 refine XS.icmpNo X41.here hx rfl (oD hby D38 66 rfl) rfl (flt hc131_67).1 ?_
                 refine XS.bipush X41.here hx rfl (oD hby D38 86 rfl) ?_
                 refine XS.istore X41.here hx rfl (oD hby D38 87 rfl) rfl rfl ?_
                 refine XS.iloadN X41.here hx rfl (oD hby D38 67 rfl) rfl ?_
                 refine X41.ldcInt hx hown (mvT hZ (oG hw 229 rfl)) (g := (mkF m 139 #[rv u0, iv p1, iv p2, rv b1, iv (7 : Int32)] [(.int p2)])) rfl (oD hby D38 68 rfl) _ ?_
                 exact kt)
                by_cases hc141_70 : p2 < (10000000 : Int32)
                · have pre72 : own_V p e below _ T41 (mkF m 168 #[rv u0, iv p1, iv p2, rv b1, iv (7 : Int32)] []) := fun t kt => pre71 t (by
                   refine XS.icmpYes X41.here hx rfl (pc0 := 141) (pc' := 148) rfl (oD hby D38 69 rfl) rfl (tlt hc141_70).1 (by decide) (by decide) ?_
                   refine XS.iloadN X41.here hx rfl (oD hby D38 70 rfl) rfl ?_
                   refine X41.ldcInt hx hown (mvT hZ (oG hw 230 rfl)) (g := (mkF m 149 #[rv u0, iv p1, iv p2, rv b1, iv (7 : Int32)] [(.int p2)])) rfl (oD hby D38 71 rfl) _ ?_
                   refine XS.icmpYes X41.here hx rfl (pc0 := 151) (pc' := 158) rfl (oD hby D38 72 rfl) rfl (tlt (own_ltt hc141_70 (by decide))).1 (by decide) (by decide) ?_
                   refine XS.iloadN X41.here hx rfl (oD hby D38 73 rfl) rfl ?_
                   show Steps _ _ _ (T41.setTop (mkF m 159 #[rv u0, iv p1, iv p2, rv b1, iv (7 : Int32)] [(.int p2)])) _
                   refine X41.ldcInt hx hown (mvT hZ (oG hw 231 rfl)) (g := (mkF m 159 #[rv u0, iv p1, iv p2, rv b1, iv (7 : Int32)] [(.int p2)])) rfl (oD hby D38 74 rfl) _ ?_
                   refine XS.icmpYes X41.here hx rfl (pc0 := 161) (pc' := 168) rfl (oD hby D38 75 rfl) rfl (tlt (own_ltt hc141_70 (by decide))).1 (by decide) (by decide) ?_
                   exact kt)
                  exact ⟨T41, _, (7 : Int32), X41.more (by decide) (by decide), N42, e41, (own_nu7 hc131_67 hc141_70), pre72⟩
                · have pre74 : own_V p e below _ T41 (mkF m 151 #[rv u0, iv p1, iv p2, rv b1, iv (8 : Int32)] [(.int (100000000 : Int32)), (.int p2)]) := fun t kt => pre71 t (by
                   refine XS.icmpNo X41.here hx rfl (oD hby D38 69 rfl) rfl (flt hc141_70).1 ?_
                   refine XS.bipush X41.here hx rfl (oD hby D38 88 rfl) ?_
                   refine XS.istore X41.here hx rfl (oD hby D38 89 rfl) rfl rfl ?_
                   refine XS.iloadN X41.here hx rfl (oD hby D38 70 rfl) rfl ?_
                   refine X41.ldcInt hx hown (mvT hZ (oG hw 230 rfl)) (g := (mkF m 149 #[rv u0, iv p1, iv p2, rv b1, iv (8 : Int32)] [(.int p2)])) rfl (oD hby D38 71 rfl) _ ?_
                   exact kt)
                  by_cases hc151_73 : p2 < (100000000 : Int32)
                  · have pre75 : own_V p e below _ T41 (mkF m 168 #[rv u0, iv p1, iv p2, rv b1, iv (8 : Int32)] []) := fun t kt => pre74 t (by
                     refine XS.icmpYes X41.here hx rfl (pc0 := 151) (pc' := 158) rfl (oD hby D38 72 rfl) rfl (tlt hc151_73).1 (by decide) (by decide) ?_
                     refine XS.iloadN X41.here hx rfl (oD hby D38 73 rfl) rfl ?_
                     refine X41.ldcInt hx hown (mvT hZ (oG hw 231 rfl)) (g := (mkF m 159 #[rv u0, iv p1, iv p2, rv b1, iv (8 : Int32)] [(.int p2)])) rfl (oD hby D38 74 rfl) _ ?_
                     refine XS.icmpYes X41.here hx rfl (pc0 := 161) (pc' := 168) rfl (oD hby D38 75 rfl) rfl (tlt (own_ltt hc151_73 (by decide))).1 (by decide) (by decide) ?_
                     exact kt)
                    exact ⟨T41, _, (8 : Int32), X41.more (by decide) (by decide), N42, e41, (own_nu8 hc141_70 hc151_73), pre75⟩
                  · have pre77 : own_V p e below _ T41 (mkF m 161 #[rv u0, iv p1, iv p2, rv b1, iv (9 : Int32)] [(.int (1000000000 : Int32)), (.int p2)]) := fun t kt => pre74 t (by
                     refine XS.icmpNo X41.here hx rfl (oD hby D38 72 rfl) rfl (flt hc151_73).1 ?_
                     refine XS.bipush X41.here hx rfl (oD hby D38 90 rfl) ?_
                     refine XS.istore X41.here hx rfl (oD hby D38 91 rfl) rfl rfl ?_
                     refine XS.iloadN X41.here hx rfl (oD hby D38 73 rfl) rfl ?_
                     refine X41.ldcInt hx hown (mvT hZ (oG hw 231 rfl)) (g := (mkF m 159 #[rv u0, iv p1, iv p2, rv b1, iv (9 : Int32)] [(.int p2)])) rfl (oD hby D38 74 rfl) _ ?_
                     exact kt)
                    by_cases hc161_76 : p2 < (1000000000 : Int32)
                    · have pre78 : own_V p e below _ T41 (mkF m 168 #[rv u0, iv p1, iv p2, rv b1, iv (9 : Int32)] []) := fun t kt => pre77 t (by
                       refine XS.icmpYes X41.here hx rfl (pc0 := 161) (pc' := 168) rfl (oD hby D38 75 rfl) rfl (tlt hc161_76).1 (by decide) (by decide) ?_
                       exact kt)
                      exact ⟨T41, _, (9 : Int32), X41.more (by decide) (by decide), N42, e41, (own_nu9 hc151_73 hc161_76), pre78⟩
                    · have pre79 : own_V p e below _ T41 (mkF m 168 #[rv u0, iv p1, iv p2, rv b1, iv (10 : Int32)] []) := fun t kt => pre77 t (by
                       refine XS.icmpNo X41.here hx rfl (oD hby D38 75 rfl) rfl (flt hc161_76).1 ?_
                       refine XS.bipush X41.here hx rfl (oD hby D38 92 rfl) ?_
                       refine XS.istore X41.here hx rfl (oD hby D38 93 rfl) rfl rfl ?_
                       exact kt)
                      exact ⟨T41, _, (10 : Int32), X41.more (by decide) (by decide), N42, e41, (own_nu10 hc161_76), pre79⟩
  obtain ⟨T80, L80, x80_L4, X80, N80, e80, rfl, pre80⟩ := Mg80
  obtain ⟨_, T81, L81, X81, hQ81, st81⟩ := own_cS X80 hx hown hZ (oG hw 232 rfl) (oG hw 233 rfl) (oG hw 189 rfl) (oG hw 234 rfl) (by decide) (rmDg l Z a0 hw [] u0 p1 (0 : Int32) (own_ni p2) p2 b1 tv kt z vs k1 zC fv xr h41 n0 f45 f46 f47 f48 f49 V41 f50 hz f51 hfv hrd hv rfl (by decide)) (W := 0) (by decide) (by decide) (g := (mkF m 175 #[rv u0, iv p1, iv p2, rv b1, iv (own_ni p2)] [(.ref b1), (.int p2), (.int (own_ni p2)), (.int (0 : Int32)), (.int p1), (.ref u0)])) rfl (by rw [hml]; rfl) (argsL := [(.ref u0), (.int p1), (.int (0 : Int32)), (.int (own_ni p2)), (.int p2), (.ref b1)]) (rest := []) (lenOf pd33 rfl) rfl (own_ww rfl) (oD hby D38 100 rfl) e80 rfl (by decide) (by decide)
  obtain ⟨rfl, N81q, e81⟩ := hQ81
  have N81 := Fr.app N80 N81q
  obtain ⟨_, T82, L82, X82, hQ82, st82⟩ := own_cS X81 hx hown hZ (oG hw 232 rfl) (oG hw 233 rfl) (oG hw 189 rfl) (oG hw 234 rfl) (by decide) (rmDg l Z a0 hw [] u0 p1 (1 : Int32) (own_ni p2) p2 b1 tv kt z vs k1 zC fv xr h41 n0 f45 f46 f47 f48 f49 V41 f50 hz f51 hfv hrd hv rfl (by decide)) (W := 0) (by decide) (by decide) (g := (mkF m 190 #[rv u0, iv p1, iv p2, rv b1, iv (own_ni p2)] [(.ref b1), (.int p2), (.int (own_ni p2)), (.int (1 : Int32)), (.int p1), (.ref u0)])) rfl (by rw [hml]; rfl) (argsL := [(.ref u0), (.int p1), (.int (1 : Int32)), (.int (own_ni p2)), (.int p2), (.ref b1)]) (rest := []) (lenOf pd33 rfl) rfl (own_ww rfl) (oD hby D38 108 rfl) e81 rfl (by decide) (by decide)
  obtain ⟨rfl, N82q, e82⟩ := hQ82
  have N82 := Fr.app N81 N82q
  obtain ⟨_, T83, L83, X83, hQ83, st83⟩ := own_cS X82 hx hown hZ (oG hw 232 rfl) (oG hw 233 rfl) (oG hw 189 rfl) (oG hw 234 rfl) (by decide) (rmDg l Z a0 hw [] u0 p1 (2 : Int32) (own_ni p2) p2 b1 tv kt z vs k1 zC fv xr h41 n0 f45 f46 f47 f48 f49 V41 f50 hz f51 hfv hrd hv rfl (by decide)) (W := 0) (by decide) (by decide) (g := (mkF m 205 #[rv u0, iv p1, iv p2, rv b1, iv (own_ni p2)] [(.ref b1), (.int p2), (.int (own_ni p2)), (.int (2 : Int32)), (.int p1), (.ref u0)])) rfl (by rw [hml]; rfl) (argsL := [(.ref u0), (.int p1), (.int (2 : Int32)), (.int (own_ni p2)), (.int p2), (.ref b1)]) (rest := []) (lenOf pd33 rfl) rfl (own_ww rfl) (oD hby D38 116 rfl) e82 rfl (by decide) (by decide)
  obtain ⟨rfl, N83q, e83⟩ := hQ83
  have N83 := Fr.app N82 N83q
  obtain ⟨_, T84, L84, X84, hQ84, st84⟩ := own_cS X83 hx hown hZ (oG hw 232 rfl) (oG hw 233 rfl) (oG hw 189 rfl) (oG hw 234 rfl) (by decide) (rmDg l Z a0 hw [] u0 p1 (3 : Int32) (own_ni p2) p2 b1 tv kt z vs k1 zC fv xr h41 n0 f45 f46 f47 f48 f49 V41 f50 hz f51 hfv hrd hv rfl (by decide)) (W := 0) (by decide) (by decide) (g := (mkF m 220 #[rv u0, iv p1, iv p2, rv b1, iv (own_ni p2)] [(.ref b1), (.int p2), (.int (own_ni p2)), (.int (3 : Int32)), (.int p1), (.ref u0)])) rfl (by rw [hml]; rfl) (argsL := [(.ref u0), (.int p1), (.int (3 : Int32)), (.int (own_ni p2)), (.int p2), (.ref b1)]) (rest := []) (lenOf pd33 rfl) rfl (own_ww rfl) (oD hby D38 124 rfl) e83 rfl (by decide) (by decide)
  obtain ⟨rfl, N84q, e84⟩ := hQ84
  have N84 := Fr.app N83 N84q
  obtain ⟨_, T85, L85, X85, hQ85, st85⟩ := own_cS X84 hx hown hZ (oG hw 232 rfl) (oG hw 233 rfl) (oG hw 189 rfl) (oG hw 234 rfl) (by decide) (rmDg l Z a0 hw [] u0 p1 (4 : Int32) (own_ni p2) p2 b1 tv kt z vs k1 zC fv xr h41 n0 f45 f46 f47 f48 f49 V41 f50 hz f51 hfv hrd hv rfl (by decide)) (W := 0) (by decide) (by decide) (g := (mkF m 235 #[rv u0, iv p1, iv p2, rv b1, iv (own_ni p2)] [(.ref b1), (.int p2), (.int (own_ni p2)), (.int (4 : Int32)), (.int p1), (.ref u0)])) rfl (by rw [hml]; rfl) (argsL := [(.ref u0), (.int p1), (.int (4 : Int32)), (.int (own_ni p2)), (.int p2), (.ref b1)]) (rest := []) (lenOf pd33 rfl) rfl (own_ww rfl) (oD hby D38 132 rfl) e84 rfl (by decide) (by decide)
  obtain ⟨rfl, N85q, e85⟩ := hQ85
  have N85 := Fr.app N84 N85q
  obtain ⟨_, T86, L86, X86, hQ86, st86⟩ := own_cS X85 hx hown hZ (oG hw 232 rfl) (oG hw 233 rfl) (oG hw 189 rfl) (oG hw 234 rfl) (by decide) (rmDg l Z a0 hw [] u0 p1 (5 : Int32) (own_ni p2) p2 b1 tv kt z vs k1 zC fv xr h41 n0 f45 f46 f47 f48 f49 V41 f50 hz f51 hfv hrd hv rfl (by decide)) (W := 0) (by decide) (by decide) (g := (mkF m 250 #[rv u0, iv p1, iv p2, rv b1, iv (own_ni p2)] [(.ref b1), (.int p2), (.int (own_ni p2)), (.int (5 : Int32)), (.int p1), (.ref u0)])) rfl (by rw [hml]; rfl) (argsL := [(.ref u0), (.int p1), (.int (5 : Int32)), (.int (own_ni p2)), (.int p2), (.ref b1)]) (rest := []) (lenOf pd33 rfl) rfl (own_ww rfl) (oD hby D38 140 rfl) e85 rfl (by decide) (by decide)
  obtain ⟨rfl, N86q, e86⟩ := hQ86
  have N86 := Fr.app N85 N86q
  obtain ⟨_, T87, L87, X87, hQ87, st87⟩ := own_cS X86 hx hown hZ (oG hw 232 rfl) (oG hw 233 rfl) (oG hw 189 rfl) (oG hw 234 rfl) (by decide) (rmDg l Z a0 hw [] u0 p1 (6 : Int32) (own_ni p2) p2 b1 tv kt z vs k1 zC fv xr h41 n0 f45 f46 f47 f48 f49 V41 f50 hz f51 hfv hrd hv rfl (by decide)) (W := 0) (by decide) (by decide) (g := (mkF m 266 #[rv u0, iv p1, iv p2, rv b1, iv (own_ni p2)] [(.ref b1), (.int p2), (.int (own_ni p2)), (.int (6 : Int32)), (.int p1), (.ref u0)])) rfl (by rw [hml]; rfl) (argsL := [(.ref u0), (.int p1), (.int (6 : Int32)), (.int (own_ni p2)), (.int p2), (.ref b1)]) (rest := []) (lenOf pd33 rfl) rfl (own_ww rfl) (oD hby D38 148 rfl) e86 rfl (by decide) (by decide)
  obtain ⟨rfl, N87q, e87⟩ := hQ87
  have N87 := Fr.app N86 N87q
  obtain ⟨_, T88, L88, X88, hQ88, st88⟩ := own_cS X87 hx hown hZ (oG hw 232 rfl) (oG hw 233 rfl) (oG hw 189 rfl) (oG hw 234 rfl) (by decide) (rmDg l Z a0 hw [] u0 p1 (7 : Int32) (own_ni p2) p2 b1 tv kt z vs k1 zC fv xr h41 n0 f45 f46 f47 f48 f49 V41 f50 hz f51 hfv hrd hv rfl (by decide)) (W := 0) (by decide) (by decide) (g := (mkF m 282 #[rv u0, iv p1, iv p2, rv b1, iv (own_ni p2)] [(.ref b1), (.int p2), (.int (own_ni p2)), (.int (7 : Int32)), (.int p1), (.ref u0)])) rfl (by rw [hml]; rfl) (argsL := [(.ref u0), (.int p1), (.int (7 : Int32)), (.int (own_ni p2)), (.int p2), (.ref b1)]) (rest := []) (lenOf pd33 rfl) rfl (own_ww rfl) (oD hby D38 156 rfl) e87 rfl (by decide) (by decide)
  obtain ⟨rfl, N88q, e88⟩ := hQ88
  have N88 := Fr.app N87 N88q
  obtain ⟨_, T89, L89, X89, hQ89, st89⟩ := own_cS X88 hx hown hZ (oG hw 232 rfl) (oG hw 233 rfl) (oG hw 189 rfl) (oG hw 234 rfl) (by decide) (rmDg l Z a0 hw [] u0 p1 (8 : Int32) (own_ni p2) p2 b1 tv kt z vs k1 zC fv xr h41 n0 f45 f46 f47 f48 f49 V41 f50 hz f51 hfv hrd hv rfl (by decide)) (W := 0) (by decide) (by decide) (g := (mkF m 298 #[rv u0, iv p1, iv p2, rv b1, iv (own_ni p2)] [(.ref b1), (.int p2), (.int (own_ni p2)), (.int (8 : Int32)), (.int p1), (.ref u0)])) rfl (by rw [hml]; rfl) (argsL := [(.ref u0), (.int p1), (.int (8 : Int32)), (.int (own_ni p2)), (.int p2), (.ref b1)]) (rest := []) (lenOf pd33 rfl) rfl (own_ww rfl) (oD hby D38 164 rfl) e88 rfl (by decide) (by decide)
  obtain ⟨rfl, N89q, e89⟩ := hQ89
  have N89 := Fr.app N88 N89q
  obtain ⟨_, T90, L90, X90, hQ90, st90⟩ := own_cS X89 hx hown hZ (oG hw 232 rfl) (oG hw 233 rfl) (oG hw 189 rfl) (oG hw 234 rfl) (by decide) (rmDg l Z a0 hw [] u0 p1 (9 : Int32) (own_ni p2) p2 b1 tv kt z vs k1 zC fv xr h41 n0 f45 f46 f47 f48 f49 V41 f50 hz f51 hfv hrd hv rfl (by decide)) (W := 0) (by decide) (by decide) (g := (mkF m 314 #[rv u0, iv p1, iv p2, rv b1, iv (own_ni p2)] [(.ref b1), (.int p2), (.int (own_ni p2)), (.int (9 : Int32)), (.int p1), (.ref u0)])) rfl (by rw [hml]; rfl) (argsL := [(.ref u0), (.int p1), (.int (9 : Int32)), (.int (own_ni p2)), (.int p2), (.ref b1)]) (rest := []) (lenOf pd33 rfl) rfl (own_ww rfl) (oD hby D38 172 rfl) e89 rfl (by decide) (by decide)
  obtain ⟨rfl, N90q, e90⟩ := hQ90
  have N90 := Fr.app N89 N90q
  obtain ⟨fs, hr, hrun, hended, hW, hsame⟩ := X90.leave (v := some (.int (p1 + (own_ni p2)))) (fun h => by rw [Bd.returns] at h; cases h)
  refine ⟨_, _, pre80 _ ?_, hrun, hended, _, _, rfl, ?_, ⟨_, rfl⟩, hW, hsame.mono (by decide) (by decide)⟩
  · refine XS.aloadN X80.here hx rfl (oD hby D38 94 rfl) rfl rfl ?_
    refine XS.iloadN X80.here hx rfl (oD hby D38 95 rfl) rfl ?_
    refine XS.iconst X80.here hx rfl (oD hby D38 96 rfl) ?_
    refine XS.iload X80.here hx rfl (oD hby D38 97 rfl) rfl ?_
    show Steps _ _ _ (T80.setTop (mkF m 173 #[rv u0, iv p1, iv p2, rv b1, iv (own_ni p2)] [(.int (own_ni p2)), (.int (0 : Int32)), (.int p1), (.ref u0)])) _
    refine XS.iloadN X80.here hx rfl (oD hby D38 98 rfl) rfl ?_
    refine XS.aloadN X80.here hx rfl (oD hby D38 99 rfl) rfl rfl ?_
    refine st81 _ ?_
    refine XS.ifYes X81.here hx rfl (pc0 := 178) (pc' := 183) rfl (oD hby D38 101 rfl) rfl ((if0 _ _).trans (feq (by decide : ¬ ((1 : Int32) = (0 : Int32)))).2) (by decide) (by decide) ?_
    refine XS.aloadN X81.here hx rfl (oD hby D38 102 rfl) rfl rfl ?_
    refine XS.iloadN X81.here hx rfl (oD hby D38 103 rfl) rfl ?_
    refine XS.iconst X81.here hx rfl (oD hby D38 104 rfl) ?_
    refine XS.iload X81.here hx rfl (oD hby D38 105 rfl) rfl ?_
    refine XS.iloadN X81.here hx rfl (oD hby D38 106 rfl) rfl ?_
    refine XS.aloadN X81.here hx rfl (oD hby D38 107 rfl) rfl rfl ?_
    refine st82 _ ?_
    refine XS.ifYes X82.here hx rfl (pc0 := 193) (pc' := 198) rfl (oD hby D38 109 rfl) rfl ((if0 _ _).trans (feq (by decide : ¬ ((1 : Int32) = (0 : Int32)))).2) (by decide) (by decide) ?_
    refine XS.aloadN X82.here hx rfl (oD hby D38 110 rfl) rfl rfl ?_
    refine XS.iloadN X82.here hx rfl (oD hby D38 111 rfl) rfl ?_
    refine XS.iconst X82.here hx rfl (oD hby D38 112 rfl) ?_
    refine XS.iload X82.here hx rfl (oD hby D38 113 rfl) rfl ?_
    refine XS.iloadN X82.here hx rfl (oD hby D38 114 rfl) rfl ?_
    refine XS.aloadN X82.here hx rfl (oD hby D38 115 rfl) rfl rfl ?_
    refine st83 _ ?_
    refine XS.ifYes X83.here hx rfl (pc0 := 208) (pc' := 213) rfl (oD hby D38 117 rfl) rfl ((if0 _ _).trans (feq (by decide : ¬ ((1 : Int32) = (0 : Int32)))).2) (by decide) (by decide) ?_
    refine XS.aloadN X83.here hx rfl (oD hby D38 118 rfl) rfl rfl ?_
    refine XS.iloadN X83.here hx rfl (oD hby D38 119 rfl) rfl ?_
    refine XS.iconst X83.here hx rfl (oD hby D38 120 rfl) ?_
    refine XS.iload X83.here hx rfl (oD hby D38 121 rfl) rfl ?_
    refine XS.iloadN X83.here hx rfl (oD hby D38 122 rfl) rfl ?_
    refine XS.aloadN X83.here hx rfl (oD hby D38 123 rfl) rfl rfl ?_
    refine st84 _ ?_
    refine XS.ifYes X84.here hx rfl (pc0 := 223) (pc' := 228) rfl (oD hby D38 125 rfl) rfl ((if0 _ _).trans (feq (by decide : ¬ ((1 : Int32) = (0 : Int32)))).2) (by decide) (by decide) ?_
    show Steps _ _ _ (T84.setTop (mkF m 228 #[rv u0, iv p1, iv p2, rv b1, iv (own_ni p2)] [])) _
    refine XS.aloadN X84.here hx rfl (oD hby D38 126 rfl) rfl rfl ?_
    refine XS.iloadN X84.here hx rfl (oD hby D38 127 rfl) rfl ?_
    refine XS.iconst X84.here hx rfl (oD hby D38 128 rfl) ?_
    refine XS.iload X84.here hx rfl (oD hby D38 129 rfl) rfl ?_
    refine XS.iloadN X84.here hx rfl (oD hby D38 130 rfl) rfl ?_
    refine XS.aloadN X84.here hx rfl (oD hby D38 131 rfl) rfl rfl ?_
    refine st85 _ ?_
    refine XS.ifYes X85.here hx rfl (pc0 := 238) (pc' := 243) rfl (oD hby D38 133 rfl) rfl ((if0 _ _).trans (feq (by decide : ¬ ((1 : Int32) = (0 : Int32)))).2) (by decide) (by decide) ?_
    refine XS.aloadN X85.here hx rfl (oD hby D38 134 rfl) rfl rfl ?_
    refine XS.iloadN X85.here hx rfl (oD hby D38 135 rfl) rfl ?_
    refine XS.iconst X85.here hx rfl (oD hby D38 136 rfl) ?_
    refine XS.iload X85.here hx rfl (oD hby D38 137 rfl) rfl ?_
    refine XS.iloadN X85.here hx rfl (oD hby D38 138 rfl) rfl ?_
    refine XS.aloadN X85.here hx rfl (oD hby D38 139 rfl) rfl rfl ?_
    refine st86 _ ?_
    refine XS.ifYes X86.here hx rfl (pc0 := 253) (pc' := 258) rfl (oD hby D38 141 rfl) rfl ((if0 _ _).trans (feq (by decide : ¬ ((1 : Int32) = (0 : Int32)))).2) (by decide) (by decide) ?_
    refine XS.aloadN X86.here hx rfl (oD hby D38 142 rfl) rfl rfl ?_
    refine XS.iloadN X86.here hx rfl (oD hby D38 143 rfl) rfl ?_
    refine XS.bipush X86.here hx rfl (oD hby D38 144 rfl) ?_
    refine XS.iload X86.here hx rfl (oD hby D38 145 rfl) rfl ?_
    refine XS.iloadN X86.here hx rfl (oD hby D38 146 rfl) rfl ?_
    refine XS.aloadN X86.here hx rfl (oD hby D38 147 rfl) rfl rfl ?_
    refine st87 _ ?_
    refine XS.ifYes X87.here hx rfl (pc0 := 269) (pc' := 274) rfl (oD hby D38 149 rfl) rfl ((if0 _ _).trans (feq (by decide : ¬ ((1 : Int32) = (0 : Int32)))).2) (by decide) (by decide) ?_
    refine XS.aloadN X87.here hx rfl (oD hby D38 150 rfl) rfl rfl ?_
    refine XS.iloadN X87.here hx rfl (oD hby D38 151 rfl) rfl ?_
    refine XS.bipush X87.here hx rfl (oD hby D38 152 rfl) ?_
    show Steps _ _ _ (T87.setTop (mkF m 278 #[rv u0, iv p1, iv p2, rv b1, iv (own_ni p2)] [(.int (7 : Int32)), (.int p1), (.ref u0)])) _
    refine XS.iload X87.here hx rfl (oD hby D38 153 rfl) rfl ?_
    refine XS.iloadN X87.here hx rfl (oD hby D38 154 rfl) rfl ?_
    refine XS.aloadN X87.here hx rfl (oD hby D38 155 rfl) rfl rfl ?_
    refine st88 _ ?_
    refine XS.ifYes X88.here hx rfl (pc0 := 285) (pc' := 290) rfl (oD hby D38 157 rfl) rfl ((if0 _ _).trans (feq (by decide : ¬ ((1 : Int32) = (0 : Int32)))).2) (by decide) (by decide) ?_
    refine XS.aloadN X88.here hx rfl (oD hby D38 158 rfl) rfl rfl ?_
    refine XS.iloadN X88.here hx rfl (oD hby D38 159 rfl) rfl ?_
    refine XS.bipush X88.here hx rfl (oD hby D38 160 rfl) ?_
    refine XS.iload X88.here hx rfl (oD hby D38 161 rfl) rfl ?_
    refine XS.iloadN X88.here hx rfl (oD hby D38 162 rfl) rfl ?_
    refine XS.aloadN X88.here hx rfl (oD hby D38 163 rfl) rfl rfl ?_
    refine st89 _ ?_
    refine XS.ifYes X89.here hx rfl (pc0 := 301) (pc' := 306) rfl (oD hby D38 165 rfl) rfl ((if0 _ _).trans (feq (by decide : ¬ ((1 : Int32) = (0 : Int32)))).2) (by decide) (by decide) ?_
    refine XS.aloadN X89.here hx rfl (oD hby D38 166 rfl) rfl rfl ?_
    refine XS.iloadN X89.here hx rfl (oD hby D38 167 rfl) rfl ?_
    refine XS.bipush X89.here hx rfl (oD hby D38 168 rfl) ?_
    refine XS.iload X89.here hx rfl (oD hby D38 169 rfl) rfl ?_
    refine XS.iloadN X89.here hx rfl (oD hby D38 170 rfl) rfl ?_
    refine XS.aloadN X89.here hx rfl (oD hby D38 171 rfl) rfl rfl ?_
    refine st90 _ ?_
    refine XS.ifYes X90.here hx rfl (pc0 := 317) (pc' := 322) rfl (oD hby D38 173 rfl) rfl ((if0 _ _).trans (feq (by decide : ¬ ((1 : Int32) = (0 : Int32)))).2) (by decide) (by decide) ?_
    refine XS.iloadN X90.here hx rfl (oD hby D38 174 rfl) rfl ?_
    refine XS.iload X90.here hx rfl (oD hby D38 175 rfl) rfl ?_
    refine XS.iadd X90.here hx rfl (oD hby D38 176 rfl) rfl ?_
    show Steps _ _ _ (T90.setTop (mkF m 326 #[rv u0, iv p1, iv p2, rv b1, iv (own_ni p2)] [(.int (p1 + (own_ni p2)))])) _
    exact retI X90 hx Bd.returns (oD hby D38 177 rfl) hr
  · show Q_rmNu Z u0 p1 p2 tv kt z vs zC fv xr h0 n0 _ T90.heap _
    rw [e90]
    exact ⟨rfl, N90, K43⟩

theorem ef_rm0 (m : MethodId) (x0 : Int32) (x1 : Int32) (x2 : Int32) (x3 : Int32) (x4 : Int32) : entryFrame m #[(.int x0), (.int x1), (.int x2), (.int x3), (.int x4)] maxLocals = mkF m 0 #[iv x0, iv x1, iv x2, iv x3, iv x4, .unset, .unset, .unset, .unset, .unset, .unset, .unset, .unset, .unset, .unset, .unset, .unset, .unset, .unset, .unset, .unset] [] := by first | (simp [entryFrame, mkF, argsToLocals, Value.category, maxLocals]; done) | rfl
theorem rm0 (l : Launch) (Z : State) (a0 : Array Value) (hw : own_W a0 Z) (ws : List Jvm.Cond) (p0 : Int32) (p1 : Int32) (p2 : Int32) (p3 : Int32) (p4 : Int32) (zC : Int32) (fv : Value) (dO : Addr) (kO : ClassId) (vO : List Value) (dT : Addr) (kT : ClassId) (vT : List Value) (h0 : Heap) (n0 : Nat) (Z0 : n0 ≤ h0.size) (P_S_String_COMPACT_STRINGS : Sta Z h0 "java/lang/String" "COMPACT_STRINGS" "Z" (.int zC)) (hz : ¬ (zC = (0 : Int32))) (P_S_Preconditions_SIOOBE_FORMATTER : Sta Z h0 "jdk/internal/util/Preconditions" "SIOOBE_FORMATTER" "Ljava/util/function/BiFunction;" fv) (hfv : (fv = .null ∨ ∃ a, fv = .ref a)) (P_S_Integer_DigitOnes : Sta Z h0 "java/lang/Integer" "DigitOnes" "[B" (.ref dO)) (P_S_Integer_DigitTens : Sta Z h0 "java/lang/Integer" "DigitTens" "[B" (.ref dT)) (P_G_dO : Arv Z h0 dO kO .byte (100 : Int32) vO (.int 0)) (P_G_dT : Arv Z h0 dT kT .byte (100 : Int32) vT (.int 0)) (hO : own_do vO) (hT : own_dt vT) :
    MetFree l x (head1 (Jvm.Cond.code x code maxLocals ret :: ws) room_1) (fun a U => a = #[(.int p0), (.int p1), (.int p2), (.int p3), (.int p4)] ∧ Z.Warmed39 U.vm ∧ U.heap = h0 ∧ CHv Z own_EL U.vm h0) (fun _ _ _ _ _ => True) (fun _ U o U' => ∃ v L, o = .returned v ∧ own_Q0 n0 v U'.heap L ∧ ReturnedEndW U o U' L room_1.cells room_1.slots) := by
  refine MetFree.of_bodySF (plainFor_of_name pn_32) hisR ?_
  intro p e s m args below meth c s₁ Bd hml0 hP hK
  obtain ⟨rfl, hZ, hh, hCH⟩ := hP
  have hx := Bd.exec
  have hby := Bd.bytes
  have hml : c.maxLocals = 21 := hml0
  have hown : s.vm.findClass "com/example/fastpath/fastpath/settings/RedisServerToStringPinLaw" = some m.cls := findClass_of_methodNamed Bd.named
  have hnm := (name_of_methodNamed Bd.named Bd.method).1
  have X0 : Stand p l e room_1 s m #[(.int p0), (.int p1), (.int p2), (.int p3), (.int p4)] below meth c s₁ [] 0 0 := Stand.of_body Bd
  have e0 : s₁.heap = h0 := by rw [← hh, Bd.state]; rfl
  have N0 := Fr.nil n0
  have pre0 : ∀ t, Steps p.tables e below (s₁.setTop (mkF m 0 #[iv p0, iv p1, iv p2, iv p3, iv p4, .unset, .unset, .unset, .unset, .unset, .unset, .unset, .unset, .unset, .unset, .unset, .unset, .unset, .unset, .unset, .unset] [])) t → Steps p.tables e below (s₁.setTop (entryFrame m #[(.int p0), (.int p1), (.int p2), (.int p3), (.int p4)] maxLocals)) t := fun t k => castTop (ef_rm0 m p0 p1 p2 p3 p4) k
  have hEL : EW Z a0 own_EL := own_hEL hw
  have wS : ∀ a ∈ Bundle.stringAtoms, a.before a0 Z = true := fun d hd => hw d ((by decide +kernel : ∀ d ∈ Bundle.stringAtoms, d ∈ tables_1) d hd)
  have CH0 : CHr Z own_EL s.vm h0 s.vm h0 := CHr.refl hCH
  have hS0 : s.Since s.vm h0.size := (State.WarmedH.refl s).since _
  have pre1 : own_V p e below _ s₁ (mkF m 3 #[iv p0, iv p1, iv p2, iv p3, iv p4, .unset, .unset, .unset, .unset, .unset, .unset, .unset, .unset, .unset, .unset, .unset, .unset, .unset, .unset, .unset, .unset] [(.int (p0 &&& (1 : Int32)))]) := fun t kt => pre0 t (by
   refine XS.iloadN X0.here hx rfl (hb hby at_0) rfl ?_
   refine XS.iconst X0.here hx rfl (hb hby at_1) ?_
   refine XS.iand X0.here hx rfl (hb hby at_2) rfl ?_
   exact kt)
  have Mg5 : ∃ (T5 : State) (L5 : List Loc) (x5_S0 : Int32), Stand p l e room_1 s m #[(.int p0), (.int p1), (.int p2), (.int p3), (.int p4)] below meth c T5 L5 0 0 ∧ Fr n0 L5 ∧ T5.heap = h0 ∧ (x5_S0 = (0 : Int32) ∨ x5_S0 = (1 : Int32)) ∧ own_V p e below (s₁.setTop (entryFrame m #[(.int p0), (.int p1), (.int p2), (.int p3), (.int p4)] maxLocals)) T5 (mkF m 11 #[iv p0, iv p1, iv p2, iv p3, iv p4, .unset, .unset, .unset, .unset, .unset, .unset, .unset, .unset, .unset, .unset, .unset, .unset, .unset, .unset, .unset, .unset] [(.int x5_S0)]) := by
    by_cases hc3_2 : (p0 &&& (1 : Int32)) = (0 : Int32)
    · have pre3 : own_V p e below _ s₁ (mkF m 11 #[iv p0, iv p1, iv p2, iv p3, iv p4, .unset, .unset, .unset, .unset, .unset, .unset, .unset, .unset, .unset, .unset, .unset, .unset, .unset, .unset, .unset, .unset] [(.int (0 : Int32))]) := fun t kt => pre1 t (by
       refine XS.ifYes X0.here hx rfl (pc0 := 3) (pc' := 10) rfl (hb hby at_3) rfl ((if0 _ _).trans (teq hc3_2).1) (by decide) (by decide) ?_
       refine XS.iconst X0.here hx rfl (hb hby at_10) ?_
       exact kt)
      exact ⟨s₁, _, (0 : Int32), X0.more (by decide) (by decide), N0, e0, (Or.inl rfl), pre3⟩
    · have pre4 : own_V p e below _ s₁ (mkF m 11 #[iv p0, iv p1, iv p2, iv p3, iv p4, .unset, .unset, .unset, .unset, .unset, .unset, .unset, .unset, .unset, .unset, .unset, .unset, .unset, .unset, .unset, .unset] [(.int (1 : Int32))]) := fun t kt => pre1 t (by
       refine XS.ifNo X0.here hx rfl (hb hby at_3) rfl ((if0 _ _).trans (feq hc3_2).1) ?_
       refine XS.iconst X0.here hx rfl (hb hby at_6) ?_
       refine XS.goto X0.here hx rfl (pc0 := 7) (pc' := 11) rfl (hb hby at_7) (by decide) (by decide) ?_
       exact kt)
      exact ⟨s₁, _, (1 : Int32), X0.more (by decide) (by decide), N0, e0, (Or.inr rfl), pre4⟩
  obtain ⟨T5, L5, x5_S0, X5, N5, e5, mp5_S0, pre5⟩ := Mg5
  have pre6 : own_V p e below _ T5 (mkF m 16 #[iv p0, iv p1, iv p2, iv p3, iv p4, iv x5_S0, .unset, .unset, .unset, .unset, .unset, .unset, .unset, .unset, .unset, .unset, .unset, .unset, .unset, .unset, .unset] [(.int (p0 &&& (2 : Int32)))]) := fun t kt => pre5 t (by
   refine XS.istore X5.here hx rfl (hb hby at_11) rfl rfl ?_
   refine XS.iloadN X5.here hx rfl (hb hby at_13) rfl ?_
   refine XS.iconst X5.here hx rfl (hb hby at_14) ?_
   refine XS.iand X5.here hx rfl (hb hby at_15) rfl ?_
   exact kt)
  have Mg10 : ∃ (T10 : State) (L10 : List Loc) (x10_S0 : Int32), Stand p l e room_1 s m #[(.int p0), (.int p1), (.int p2), (.int p3), (.int p4)] below meth c T10 L10 0 0 ∧ Fr n0 L10 ∧ T10.heap = h0 ∧ (x10_S0 = (0 : Int32) ∨ x10_S0 = (1 : Int32)) ∧ own_V p e below (s₁.setTop (entryFrame m #[(.int p0), (.int p1), (.int p2), (.int p3), (.int p4)] maxLocals)) T10 (mkF m 24 #[iv p0, iv p1, iv p2, iv p3, iv p4, iv x5_S0, .unset, .unset, .unset, .unset, .unset, .unset, .unset, .unset, .unset, .unset, .unset, .unset, .unset, .unset, .unset] [(.int x10_S0)]) := by
    by_cases hc16_7 : (p0 &&& (2 : Int32)) = (0 : Int32)
    · have pre8 : own_V p e below _ T5 (mkF m 24 #[iv p0, iv p1, iv p2, iv p3, iv p4, iv x5_S0, .unset, .unset, .unset, .unset, .unset, .unset, .unset, .unset, .unset, .unset, .unset, .unset, .unset, .unset, .unset] [(.int (0 : Int32))]) := fun t kt => pre6 t (by
       refine XS.ifYes X5.here hx rfl (pc0 := 16) (pc' := 23) rfl (hb hby at_16) rfl ((if0 _ _).trans (teq hc16_7).1) (by decide) (by decide) ?_
       refine XS.iconst X5.here hx rfl (hb hby at_23) ?_
       exact kt)
      exact ⟨T5, _, (0 : Int32), X5.more (by decide) (by decide), N5, e5, (Or.inl rfl), pre8⟩
    · have pre9 : own_V p e below _ T5 (mkF m 24 #[iv p0, iv p1, iv p2, iv p3, iv p4, iv x5_S0, .unset, .unset, .unset, .unset, .unset, .unset, .unset, .unset, .unset, .unset, .unset, .unset, .unset, .unset, .unset] [(.int (1 : Int32))]) := fun t kt => pre6 t (by
       refine XS.ifNo X5.here hx rfl (hb hby at_16) rfl ((if0 _ _).trans (feq hc16_7).1) ?_
       refine XS.iconst X5.here hx rfl (hb hby at_19) ?_
       refine XS.goto X5.here hx rfl (pc0 := 20) (pc' := 24) rfl (hb hby at_20) (by decide) (by decide) ?_
       exact kt)
      exact ⟨T5, _, (1 : Int32), X5.more (by decide) (by decide), N5, e5, (Or.inr rfl), pre9⟩
  obtain ⟨T10, L10, x10_S0, X10, N10, e10, mp10_S0, pre10⟩ := Mg10
  have pre11 : own_V p e below _ T10 (mkF m 29 #[iv p0, iv p1, iv p2, iv p3, iv p4, iv x5_S0, iv x10_S0, .unset, .unset, .unset, .unset, .unset, .unset, .unset, .unset, .unset, .unset, .unset, .unset, .unset, .unset] [(.int (p0 &&& (4 : Int32)))]) := fun t kt => pre10 t (by
   refine XS.istore X10.here hx rfl (hb hby at_24) rfl rfl ?_
   refine XS.iloadN X10.here hx rfl (hb hby at_26) rfl ?_
   refine XS.iconst X10.here hx rfl (hb hby at_27) ?_
   refine XS.iand X10.here hx rfl (hb hby at_28) rfl ?_
   exact kt)
  have Mg15 : ∃ (T15 : State) (L15 : List Loc) (x15_S0 : Int32), Stand p l e room_1 s m #[(.int p0), (.int p1), (.int p2), (.int p3), (.int p4)] below meth c T15 L15 0 0 ∧ Fr n0 L15 ∧ T15.heap = h0 ∧ (x15_S0 = (0 : Int32) ∨ x15_S0 = (1 : Int32)) ∧ own_V p e below (s₁.setTop (entryFrame m #[(.int p0), (.int p1), (.int p2), (.int p3), (.int p4)] maxLocals)) T15 (mkF m 37 #[iv p0, iv p1, iv p2, iv p3, iv p4, iv x5_S0, iv x10_S0, .unset, .unset, .unset, .unset, .unset, .unset, .unset, .unset, .unset, .unset, .unset, .unset, .unset, .unset] [(.int x15_S0)]) := by
    by_cases hc29_12 : (p0 &&& (4 : Int32)) = (0 : Int32)
    · have pre13 : own_V p e below _ T10 (mkF m 37 #[iv p0, iv p1, iv p2, iv p3, iv p4, iv x5_S0, iv x10_S0, .unset, .unset, .unset, .unset, .unset, .unset, .unset, .unset, .unset, .unset, .unset, .unset, .unset, .unset] [(.int (0 : Int32))]) := fun t kt => pre11 t (by
       refine XS.ifYes X10.here hx rfl (pc0 := 29) (pc' := 36) rfl (hb hby at_29) rfl ((if0 _ _).trans (teq hc29_12).1) (by decide) (by decide) ?_
       refine XS.iconst X10.here hx rfl (hb hby at_36) ?_
       exact kt)
      exact ⟨T10, _, (0 : Int32), X10.more (by decide) (by decide), N10, e10, (Or.inl rfl), pre13⟩
    · have pre14 : own_V p e below _ T10 (mkF m 37 #[iv p0, iv p1, iv p2, iv p3, iv p4, iv x5_S0, iv x10_S0, .unset, .unset, .unset, .unset, .unset, .unset, .unset, .unset, .unset, .unset, .unset, .unset, .unset, .unset] [(.int (1 : Int32))]) := fun t kt => pre11 t (by
       show Steps _ _ _ (T10.setTop (mkF m 29 #[iv p0, iv p1, iv p2, iv p3, iv p4, iv x5_S0, iv x10_S0, .unset, .unset, .unset, .unset, .unset, .unset, .unset, .unset, .unset, .unset, .unset, .unset, .unset, .unset] [(.int (p0 &&& (4 : Int32)))])) _
       refine XS.ifNo X10.here hx rfl (hb hby at_29) rfl ((if0 _ _).trans (feq hc29_12).1) ?_
       refine XS.iconst X10.here hx rfl (hb hby at_32) ?_
       refine XS.goto X10.here hx rfl (pc0 := 33) (pc' := 37) rfl (hb hby at_33) (by decide) (by decide) ?_
       exact kt)
      exact ⟨T10, _, (1 : Int32), X10.more (by decide) (by decide), N10, e10, (Or.inr rfl), pre14⟩
  obtain ⟨T15, L15, x15_S0, X15, N15, e15, mp15_S0, pre15⟩ := Mg15
  have pre16 : own_V p e below _ T15 (mkF m 76 #[iv p0, iv p1, iv p2, iv p3, iv p4, iv x5_S0, iv x10_S0, iv x15_S0, iv (((p0.toUInt32 >>> ((3 : Int32) &&& 31).toUInt32).toInt32) &&& (3 : Int32)), iv ((p1 &&& (255 : Int32)).toUInt32.toUInt16.toUInt32.toInt32), iv ((((p1.toUInt32 >>> ((8 : Int32) &&& 31).toUInt32).toInt32) &&& (255 : Int32)).toUInt32.toUInt16.toUInt32.toInt32), iv ((((p1.toUInt32 >>> ((16 : Int32) &&& 31).toUInt32).toInt32) &&& (255 : Int32)).toUInt32.toUInt16.toUInt32.toInt32), .unset, .unset, .unset, .unset, .unset, .unset, .unset, .unset, .unset] []) := fun t kt => pre15 t (by
   refine XS.istore X15.here hx rfl (hb hby at_37) rfl rfl ?_
   refine XS.iloadN X15.here hx rfl (hb hby at_39) rfl ?_
   refine XS.iconst X15.here hx rfl (hb hby at_40) ?_
   refine XS.iushr X15.here hx rfl (hb hby at_41) rfl ?_
   refine XS.iconst X15.here hx rfl (hb hby at_42) ?_
   refine XS.iand X15.here hx rfl (hb hby at_43) rfl ?_
   refine XS.istore X15.here hx rfl (hb hby at_44) rfl rfl ?_
   refine XS.iloadN X15.here hx rfl (hb hby at_46) rfl ?_
   refine XS.sipush X15.here hx rfl (hb hby at_47) ?_
   refine XS.iand X15.here hx rfl (hb hby at_50) rfl ?_
   refine XS.i2c X15.here hx rfl (hb hby at_51) rfl ?_
   refine XS.istore X15.here hx rfl (hb hby at_52) rfl rfl ?_
   refine XS.iloadN X15.here hx rfl (hb hby at_54) rfl ?_
   refine XS.bipush X15.here hx rfl (hb hby at_55) ?_
   refine XS.iushr X15.here hx rfl (hb hby at_57) rfl ?_
   refine XS.sipush X15.here hx rfl (hb hby at_58) ?_
   refine XS.iand X15.here hx rfl (hb hby at_61) rfl ?_
   refine XS.i2c X15.here hx rfl (hb hby at_62) rfl ?_
   refine XS.istore X15.here hx rfl (hb hby at_63) rfl rfl ?_
   refine XS.iloadN X15.here hx rfl (hb hby at_65) rfl ?_
   refine XS.bipush X15.here hx rfl (hb hby at_66) ?_
   show Steps _ _ _ (T15.setTop (mkF m 68 #[iv p0, iv p1, iv p2, iv p3, iv p4, iv x5_S0, iv x10_S0, iv x15_S0, iv (((p0.toUInt32 >>> ((3 : Int32) &&& 31).toUInt32).toInt32) &&& (3 : Int32)), iv ((p1 &&& (255 : Int32)).toUInt32.toUInt16.toUInt32.toInt32), iv ((((p1.toUInt32 >>> ((8 : Int32) &&& 31).toUInt32).toInt32) &&& (255 : Int32)).toUInt32.toUInt16.toUInt32.toInt32), .unset, .unset, .unset, .unset, .unset, .unset, .unset, .unset, .unset, .unset] [(.int (16 : Int32)), (.int p1)])) _
   refine XS.iushr X15.here hx rfl (hb hby at_68) rfl ?_
   refine XS.sipush X15.here hx rfl (hb hby at_69) ?_
   refine XS.iand X15.here hx rfl (hb hby at_72) rfl ?_
   refine XS.i2c X15.here hx rfl (hb hby at_73) rfl ?_
   refine XS.istore X15.here hx rfl (hb hby at_74) rfl rfl ?_
   exact kt)
  obtain ⟨c0, e_c0, hc0⟩ : ∃ c_, ((p1 &&& (255 : Int32)).toUInt32.toUInt16.toUInt32.toInt32) = c_ ∧ (¬ c_ < 0 ∧ ¬ (255 : Int32) < c_) := ⟨_, rfl, own_c8 _⟩
  rw [e_c0] at pre16
  obtain ⟨c1, e_c1, hc1⟩ : ∃ c_, ((((p1.toUInt32 >>> ((8 : Int32) &&& 31).toUInt32).toInt32) &&& (255 : Int32)).toUInt32.toUInt16.toUInt32.toInt32) = c_ ∧ (¬ c_ < 0 ∧ ¬ (255 : Int32) < c_) := ⟨_, rfl, own_c8 _⟩
  rw [e_c1] at pre16
  obtain ⟨c2, e_c2, hc2⟩ : ∃ c_, ((((p1.toUInt32 >>> ((16 : Int32) &&& 31).toUInt32).toInt32) &&& (255 : Int32)).toUInt32.toUInt16.toUInt32.toInt32) = c_ ∧ (¬ c_ < 0 ∧ ¬ (255 : Int32) < c_) := ⟨_, rfl, own_c8 _⟩
  rw [e_c2] at pre16
  obtain ⟨nn, e_nn, hnn⟩ : ∃ c_, (((p0.toUInt32 >>> ((3 : Int32) &&& 31).toUInt32).toInt32) &&& (3 : Int32)) = c_ ∧ (c_ = (0 : Int32) ∨ c_ = (1 : Int32) ∨ c_ = (2 : Int32) ∨ c_ = (3 : Int32)) := ⟨_, rfl, own_n03 _⟩
  rw [e_nn] at pre16
  have Mg225 : ∃ (T225 : State) (L225 : List Loc) (x225_L12 : Addr) (x225_L13 : Addr) (vm225 : Vm) (kx225 : Nat) (sgx : Addr) (tx : Addr) (ktx : ClassId) (vsx : List Value), Stand p l e room_1 (s.setVm vm225) m #[(.int p0), (.int p1), (.int p2), (.int p3), (.int p4)] below meth c T225 L225 6 12 ∧ Fr n0 L225 ∧ Keep h0 T225.heap [] ∧ CHr Z own_EL s.vm h0 vm225 T225.heap ∧ n0 ≤ T225.heap.size ∧ Sta Z T225.heap "java/lang/String" "COMPACT_STRINGS" "Z" (.int zC) ∧ Sta Z T225.heap "jdk/internal/util/Preconditions" "SIOOBE_FORMATTER" "Ljava/util/function/BiFunction;" fv ∧ Sta Z T225.heap "java/lang/Integer" "DigitOnes" "[B" (.ref dO) ∧ Sta Z T225.heap "java/lang/Integer" "DigitTens" "[B" (.ref dT) ∧ Arv Z T225.heap dO kO .byte (100 : Int32) vO (.int 0) ∧ Arv Z T225.heap dT kT .byte (100 : Int32) vT (.int 0) ∧ kx225 ≤ T225.heap.size ∧ Z.Warmed39 (s.setVm vm225).vm ∧ (s.setVm vm225).vm.findClass "com/example/fastpath/fastpath/settings/RedisServerToStringPinLaw" = some m.cls ∧ s.Since vm225 kx225 ∧ Exa Z T225.heap sgx "java/lang/String" ∧ Fld Z T225.heap sgx "java/lang/String" "value" "[B" (.ref tx) ∧ Fld Z T225.heap sgx "java/lang/String" "coder" "B" (.int (0 : Int32)) ∧ Arv Z T225.heap tx ktx .byte nn vsx (.int 0) ∧ (own_has vsx (own_cl nn c0 c1 c2)) ∧ x225_L13 = sgx ∧ own_V p e below (s₁.setTop (entryFrame m #[(.int p0), (.int p1), (.int p2), (.int p3), (.int p4)] maxLocals)) T225 (mkF m 163 #[iv p0, iv p1, iv p2, iv p3, iv p4, iv x5_S0, iv x10_S0, iv x15_S0, iv nn, iv c0, iv c1, iv c2, rv x225_L12, rv x225_L13, .unset, .unset, .unset, .unset, .unset, .unset, .unset] []) := by
    have pre18 : own_V p e below _ T15 (mkF m 78 #[iv p0, iv p1, iv p2, iv p3, iv p4, iv x5_S0, iv x10_S0, iv x15_S0, iv nn, iv c0, iv c1, iv c2, .unset, .unset, .unset, .unset, .unset, .unset, .unset, .unset, .unset] [(.int nn)]) := fun t kt => pre16 t (by
     refine XS.iload X15.here hx rfl (hb hby at_76) rfl ?_
     exact kt)
    by_cases hc78_17 : nn = (0 : Int32)
    · obtain ⟨T19, h19, k19, X19, e19, E19, A19, st19⟩ := newP X15 hx hZ (oG hw 0 rfl) e15 (g := (mkF m 82 #[iv p0, iv p1, iv p2, iv p3, iv p4, iv x5_S0, iv x10_S0, iv x15_S0, iv nn, iv c0, iv c1, iv c2, .unset, .unset, .unset, .unset, .unset, .unset, .unset, .unset, .unset] [(.int (0 : Int32))])) rfl (hb hby at_82) rfl (by decide) (cap := 0) (by decide) (by decide) (by decide) (by decide)
      obtain ⟨b19, g19⟩ : ∃ z, z = h0.size := ⟨_, rfl⟩
      rw [← g19] at A19 st19
      have ne20 : dO ≠ b19 := Nat.ne_of_lt (Nat.lt_of_lt_of_le P_G_dO.lt (Nat.le_of_eq g19.symm))
      have ne21 : dT ≠ b19 := Nat.ne_of_lt (Nat.lt_of_lt_of_le P_G_dT.lt (Nat.le_of_eq g19.symm))
      have o19 : n0 ≤ b19 := Nat.le_trans Z0 (Nat.le_of_eq g19.symm)
      have z19 : h0.size ≤ b19 := Nat.le_trans (Keep.refl h0 []).1 (Nat.le_of_eq g19.symm)
      have CH22 : CHr Z own_EL s.vm h0 s.vm h19 := CH0.trans (CHr.ext E19 CH0.1)
      have Yb23 : Safe Z own_EL s.vm h19 b19 := Safe.ext E19 CH0.1 (Safe.new (Nat.le_of_eq g19.symm))
      have K19 : Keep h0 h19 [] := (Keep.refl h0 []).ext E19
      have V19 : Arv Z h19 b19 k19 .char (0 : Int32) [] (.int (0 : Int32)) := Arv.new A19 (by decide)
      have f24 := (Nat.le_trans Z0 E19.1)
      obtain ⟨T25, h25, X25, e25, E25, A25, D25, U25, st25⟩ := newO X19 hx hZ hown (oG hw 1 rfl) (oG hw 2 rfl) (oG hw 3 rfl) e19 (g := (mkF m 152 #[iv p0, iv p1, iv p2, iv p3, iv p4, iv x5_S0, iv x10_S0, iv x15_S0, iv nn, iv c0, iv c1, iv c2, rv b19, .unset, .unset, .unset, .unset, .unset, .unset, .unset, .unset] [])) rfl (hb hby at_152) (by decide) (by decide)
      obtain ⟨b25, g25⟩ : ∃ z, z = h19.size := ⟨_, rfl⟩
      rw [← g25] at A25 D25 U25 st25
      have f26 := (P_G_dO.ext E19)
      have ne27 : dO ≠ b25 := Nat.ne_of_lt (Nat.lt_of_lt_of_le f26.lt (Nat.le_of_eq g25.symm))
      have f28 := (P_G_dT.ext E19)
      have ne29 : dT ≠ b25 := Nat.ne_of_lt (Nat.lt_of_lt_of_le f28.lt (Nat.le_of_eq g25.symm))
      have ne30 : b19 ≠ b25 := Nat.ne_of_lt (Nat.lt_of_lt_of_le V19.lt (Nat.le_of_eq g25.symm))
      have o25 : n0 ≤ b25 := Nat.le_trans f24 (Nat.le_of_eq g25.symm)
      have z25 : h0.size ≤ b25 := Nat.le_trans K19.1 (Nat.le_of_eq g25.symm)
      have CH31 : CHr Z own_EL s.vm h0 s.vm h25 := CH22.trans (CHr.ext E25 CH22.1)
      have Yb32 : Safe Z own_EL s.vm h25 b25 := Safe.ext E25 CH22.1 (Safe.new (Nat.le_of_eq g25.symm))
      have K25 : Keep h0 h25 [] := K19.ext E25
      have f33 : Fld Z h25 b25 "java/lang/String" "value" "[B" .null := D25 (Or.inr (oG hw 16 rfl)) (ty := (.array .byte)) (by decide)
      have f34 : Fld Z h25 b25 "java/lang/String" "coder" "B" (.int (0 : Int32)) := D25 (Or.inr (oG hw 17 rfl)) (ty := .byte) (by decide)
      have pre35 : own_V p e below _ T25 (mkF m 158 #[iv p0, iv p1, iv p2, iv p3, iv p4, iv x5_S0, iv x10_S0, iv x15_S0, iv nn, iv c0, iv c1, iv c2, rv b19, .unset, .unset, .unset, .unset, .unset, .unset, .unset, .unset] [(.ref b19), (.ref b25), (.ref b25)]) := fun t kt => pre18 t (by
       refine XS.ifNo X15.here hx rfl (hb hby at_78) rfl ((if0 _ _).trans (teq hc78_17).2) ?_
       refine XS.iconst X15.here hx rfl (hb hby at_81) ?_
       refine st19 _ ?_
       refine XS.astore X19.here hx rfl (hb hby at_84) rfl rfl rfl ?_
       refine XS.goto X19.here hx rfl (pc0 := 86) (pc' := 152) rfl (hb hby at_86) (by decide) (by decide) ?_
       refine st25 _ ?_
       refine XS.dup X25.here hx rfl (hb hby at_155) rfl rfl ?_
       refine XS.aload X25.here hx rfl (hb hby at_156) rfl rfl ?_
       exact kt)
      have f36 := (V19.ext E25)
      have f37 := (Nat.le_trans f24 E25.1)
      have f39 := (Nat.le_trans (Nat.le_trans (Nat.le_refl h0.size) E19.1) E25.1)
      have f40 : Safe Z own_EL s.vm h25 b19 := (Safe.ext E25 CH22.1 Yb23)
      obtain ⟨_, _, ⟨T38, L38, k38, n38⟩, -, Xw38, hSw38, gr38, ⟨Lc38, hQ38, l38, y38, z38, CHq38⟩, st38⟩ := X25.specialBackS hx (y := own_y34) rfl hown (mvT hZ (oG hw 4 rfl)) (mvT hZ (oG hw 5 rfl)) (mvT hZ (oG hw 6 rfl)) (by decide) (backOfSH (W := 1) (rmI1_0 l Z a0 hw [] b25 b19 k19 h25 n0 f37 A25 f33 f34 f36 o25) hZ (oG hw 6 rfl) (oG hw 3 rfl) (by decide) (by decide) hEL CH31.1) (g := (mkF m 158 #[iv p0, iv p1, iv p2, iv p3, iv p4, iv x5_S0, iv x10_S0, iv x15_S0, iv nn, iv c0, iv c1, iv c2, rv b19, .unset, .unset, .unset, .unset, .unset, .unset, .unset, .unset] [(.ref b19), (.ref b25), (.ref b25)])) rfl (by rw [hml]; rfl) (Steps.refl _) (a := b25) (argsL := [(.ref b19)]) (rest := [(.ref b25)]) (lenOf pd34 rfl) rfl (by show 2 * 0 + _ ≤ _; exact Nat.le_of_eq rfl) (hb hby at_158) (fun _ _ => ⟨rfl, e25, (by decide : 2 + 4 ≤ _), (by decide : 4 + 8 ≤ _)⟩)
      dsimp only [Pt.U, Pt.locs, Pt.cells, Pt.slots] at Xw38 hSw38 gr38 l38 y38 z38 st38 hQ38 CHq38
      subst l38 y38 z38
      obtain ⟨X38, hS38, hZ38, hown38⟩ := rebS hS0 (by rw [e25]; exact f39) Xw38 hSw38 gr38 hZ hown
      have f41 := (f26.ext E25)
      have f42 := (f28.ext E25)
      obtain ⟨t_38, kt_38, rfl, N38q, K38, f43, f44, f45, f46, f47⟩ := hQ38
      have KK38 : Keep h0 T38.heap [] := Keep.trans K25 K38 (allS (Or.inr z25) all0)
      have CH48 : CHr Z own_EL s.vm h0 T38.vm T38.heap := CH31.trans CHq38
      have Yr49 : Safe Z own_EL T38.vm T38.heap b19 := CHr.safe CHq38 f36.lt f40
      have Yr50 : Safe Z own_EL T38.vm T38.heap b25 := CHr.safe CHq38 A25.lt Yb32
      have N38 := Fr.app N15 N38q
      have pre51 : own_V p e below _ T38 (mkF m 163 #[iv p0, iv p1, iv p2, iv p3, iv p4, iv x5_S0, iv x10_S0, iv x15_S0, iv nn, iv c0, iv c1, iv c2, rv b19, rv b25, .unset, .unset, .unset, .unset, .unset, .unset, .unset] []) := fun t kt => pre35 t (by
       refine st38.trans ?_
       refine XS.astore X38.here hx rfl (hb hby at_161) rfl rfl rfl ?_
       exact kt)
      have f52 := (Nat.le_trans f37 K38.1)
      have f53 := (own_staKeep ((P_S_String_COMPACT_STRINGS.ext E19).ext E25) K38 (nsS A25.nostat ns0))
      have f54 := (own_staKeep ((P_S_Preconditions_SIOOBE_FORMATTER.ext E19).ext E25) K38 (nsS A25.nostat ns0))
      have f55 := (own_staKeep ((P_S_Integer_DigitOnes.ext E19).ext E25) K38 (nsS A25.nostat ns0))
      have f56 := (own_staKeep ((P_S_Integer_DigitTens.ext E19).ext E25) K38 (nsS A25.nostat ns0))
      have f57 := (f41.keep K38 (ninS ne27 nin0))
      have f58 := (f42.keep K38 (ninS ne29 nin0))
      exact ⟨T38, _, b19, b25, T38.vm, T38.heap.size, b25, t_38, kt_38, [], X38.more (by decide) (by decide), N38, KK38, CH48, f52, f53, f54, f55, f56, f57, f58, (Nat.le_refl _), hZ38, hown38, hS38, f43, f44, f45, (by rw [hc78_17]; exact f47), (own_clh0 hc78_17), rfl, pre51⟩
    · have pre60 : own_V p e below _ T15 (mkF m 92 #[iv p0, iv p1, iv p2, iv p3, iv p4, iv x5_S0, iv x10_S0, iv x15_S0, iv nn, iv c0, iv c1, iv c2, .unset, .unset, .unset, .unset, .unset, .unset, .unset, .unset, .unset] [(.int (1 : Int32)), (.int nn)]) := fun t kt => pre18 t (by
       refine XS.ifYes X15.here hx rfl (pc0 := 78) (pc' := 89) rfl (hb hby at_78) rfl ((if0 _ _).trans (feq hc78_17).2) (by decide) (by decide) ?_
       refine XS.iload X15.here hx rfl (hb hby at_89) rfl ?_
       refine XS.iconst X15.here hx rfl (hb hby at_91) ?_
       exact kt)
      by_cases hc92_59 : nn = (1 : Int32)
      · obtain ⟨T61, h61, k61, X61, e61, E61, A61, st61⟩ := newP X15 hx hZ (oG hw 0 rfl) e15 (g := (mkF m 96 #[iv p0, iv p1, iv p2, iv p3, iv p4, iv x5_S0, iv x10_S0, iv x15_S0, iv nn, iv c0, iv c1, iv c2, .unset, .unset, .unset, .unset, .unset, .unset, .unset, .unset, .unset] [(.int (1 : Int32))])) rfl (hb hby at_96) rfl (by decide) (cap := 1) (by decide) (by decide) (by decide) (by decide)
        obtain ⟨b61, g61⟩ : ∃ z, z = h0.size := ⟨_, rfl⟩
        rw [← g61] at A61 st61
        have ne62 : dO ≠ b61 := Nat.ne_of_lt (Nat.lt_of_lt_of_le P_G_dO.lt (Nat.le_of_eq g61.symm))
        have ne63 : dT ≠ b61 := Nat.ne_of_lt (Nat.lt_of_lt_of_le P_G_dT.lt (Nat.le_of_eq g61.symm))
        have o61 : n0 ≤ b61 := Nat.le_trans Z0 (Nat.le_of_eq g61.symm)
        have z61 : h0.size ≤ b61 := Nat.le_trans (Keep.refl h0 []).1 (Nat.le_of_eq g61.symm)
        have CH64 : CHr Z own_EL s.vm h0 s.vm h61 := CH0.trans (CHr.ext E61 CH0.1)
        have Yb65 : Safe Z own_EL s.vm h61 b61 := Safe.ext E61 CH0.1 (Safe.new (Nat.le_of_eq g61.symm))
        have K61 : Keep h0 h61 [] := (Keep.refl h0 []).ext E61
        have V61 : Arv Z h61 b61 k61 .char (1 : Int32) [(.int (0 : Int32))] (.int (0 : Int32)) := (Arv.new A61 (by decide)).pad (pad_rep [] (.int (0 : Int32)) 1)
        obtain ⟨cl66, Ar66, qq66, S66, N66_, H66, G66⟩ := id V61
        have hin66 : ¬ ((0 : Int32) < 0 ∨ cl66.slots.size ≤ ((0 : Int32)).toNatClampNeg) := inb_of S66 ⟨by decide, by decide⟩
        obtain ⟨T67, h67, X67, e67, W67, st67⟩ := stC X61 hx hZ e61 Ar66 (j := (0 : Int32)) hin66 (g := (mkF m 102 #[iv p0, iv p1, iv p2, iv p3, iv p4, iv x5_S0, iv x10_S0, iv x15_S0, iv nn, iv c0, iv c1, iv c2, .unset, .unset, .unset, .unset, .unset, .unset, .unset, .unset, .unset] [(.int c0), (.int (0 : Int32)), (.ref b61), (.ref b61)])) rfl rfl (hb hby at_102)
        have CH68 : CHr Z own_EL s.vm h0 s.vm h67 := CH64.trans (CHr.wr W67 Yb65 CH64.1)
        have V67 : Arv Z h67 b61 k61 .char (1 : Int32) [(.int c0)] (.int (0 : Int32)) := by have q_ := Arv.set Ar66 qq66 S66 N66_ H66 G66 (fits_nar_char _) W67 0 rfl (Nat.le_of_ble_eq_true rfl); rw [own_nc8 hc0] at q_; exact q_
        have N69 := Fr.snoc X67 N15 o61
        have K70 : Keep h0 h67 [] := K61.wr W67 (Or.inr z61)
        have f71 := (Nat.le_trans (Nat.le_trans Z0 E61.1) (Keep.of_wr W67).1)
        obtain ⟨T72, h72, X72, e72, E72, A72, D72, U72, st72⟩ := newO X67 hx hZ hown (oG hw 1 rfl) (oG hw 2 rfl) (oG hw 3 rfl) e67 (g := (mkF m 152 #[iv p0, iv p1, iv p2, iv p3, iv p4, iv x5_S0, iv x10_S0, iv x15_S0, iv nn, iv c0, iv c1, iv c2, rv b61, .unset, .unset, .unset, .unset, .unset, .unset, .unset, .unset] [])) rfl (hb hby at_152) (by decide) (by decide)
        obtain ⟨b72, g72⟩ : ∃ z, z = h67.size := ⟨_, rfl⟩
        rw [← g72] at A72 D72 U72 st72
        have f73 := ((P_G_dO.ext E61).other W67 ne62)
        have ne74 : dO ≠ b72 := Nat.ne_of_lt (Nat.lt_of_lt_of_le f73.lt (Nat.le_of_eq g72.symm))
        have f75 := ((P_G_dT.ext E61).other W67 ne63)
        have ne76 : dT ≠ b72 := Nat.ne_of_lt (Nat.lt_of_lt_of_le f75.lt (Nat.le_of_eq g72.symm))
        have ne77 : b61 ≠ b72 := Nat.ne_of_lt (Nat.lt_of_lt_of_le V67.lt (Nat.le_of_eq g72.symm))
        have o72 : n0 ≤ b72 := Nat.le_trans f71 (Nat.le_of_eq g72.symm)
        have z72 : h0.size ≤ b72 := Nat.le_trans K70.1 (Nat.le_of_eq g72.symm)
        have CH78 : CHr Z own_EL s.vm h0 s.vm h72 := CH68.trans (CHr.ext E72 CH68.1)
        have Yb79 : Safe Z own_EL s.vm h72 b72 := Safe.ext E72 CH68.1 (Safe.new (Nat.le_of_eq g72.symm))
        have K72 : Keep h0 h72 [] := K70.ext E72
        have f80 : Fld Z h72 b72 "java/lang/String" "value" "[B" .null := D72 (Or.inr (oG hw 16 rfl)) (ty := (.array .byte)) (by decide)
        have f81 : Fld Z h72 b72 "java/lang/String" "coder" "B" (.int (0 : Int32)) := D72 (Or.inr (oG hw 17 rfl)) (ty := .byte) (by decide)
        have pre82 : own_V p e below _ T72 (mkF m 158 #[iv p0, iv p1, iv p2, iv p3, iv p4, iv x5_S0, iv x10_S0, iv x15_S0, iv nn, iv c0, iv c1, iv c2, rv b61, .unset, .unset, .unset, .unset, .unset, .unset, .unset, .unset] [(.ref b61), (.ref b72), (.ref b72)]) := fun t kt => pre60 t (by
         refine XS.icmpNo X15.here hx rfl (hb hby at_92) rfl (teq hc92_59).2 ?_
         refine XS.iconst X15.here hx rfl (hb hby at_95) ?_
         refine st61 _ ?_
         refine XS.dup X61.here hx rfl (hb hby at_98) rfl rfl ?_
         refine XS.iconst X61.here hx rfl (hb hby at_99) ?_
         refine XS.iload X61.here hx rfl (hb hby at_100) rfl ?_
         show Steps _ _ _ (T61.setTop (mkF m 102 #[iv p0, iv p1, iv p2, iv p3, iv p4, iv x5_S0, iv x10_S0, iv x15_S0, iv nn, iv c0, iv c1, iv c2, .unset, .unset, .unset, .unset, .unset, .unset, .unset, .unset, .unset] [(.int c0), (.int (0 : Int32)), (.ref b61), (.ref b61)])) _
         refine st67 _ ?_
         refine XS.astore X67.here hx rfl (hb hby at_103) rfl rfl rfl ?_
         refine XS.goto X67.here hx rfl (pc0 := 105) (pc' := 152) rfl (hb hby at_105) (by decide) (by decide) ?_
         refine st72 _ ?_
         refine XS.dup X72.here hx rfl (hb hby at_155) rfl rfl ?_
         refine XS.aload X72.here hx rfl (hb hby at_156) rfl rfl ?_
         exact kt)
        have f83 := (V67.ext E72)
        have f84 := (((P_S_String_COMPACT_STRINGS.ext E61).wr W67).ext E72)
        have f85 := (Nat.le_trans f71 E72.1)
        obtain ⟨_, T86, L86, X86, hQ86, st86⟩ := own_cI X72 hx rfl hown hZ (oG hw 4 rfl) (oG hw 5 rfl) (oG hw 3 rfl) (oG hw 6 rfl) (by decide) (rmI1_1 l Z a0 hw [] b72 b61 k61 c0 zC h72 n0 f85 A72 f80 f81 f83 (Ne.symm ne77) hc0 f84 hz o72) (W := 1) (by decide) (by decide) (g := (mkF m 158 #[iv p0, iv p1, iv p2, iv p3, iv p4, iv x5_S0, iv x10_S0, iv x15_S0, iv nn, iv c0, iv c1, iv c2, rv b61, .unset, .unset, .unset, .unset, .unset, .unset, .unset, .unset] [(.ref b61), (.ref b72), (.ref b72)])) rfl (by rw [hml]; rfl) (a := b72) (argsL := [(.ref b61)]) (rest := [(.ref b72)]) (lenOf pd34 rfl) rfl (own_ww rfl) (hb hby at_158) e72 rfl (by decide) (by decide)
        have f87 := (f73.ext E72)
        have f88 := (f75.ext E72)
        obtain ⟨t_86, kt_86, rfl, N86q, K86, sx86_0, f89, f90, f91, f92, f93⟩ := hQ86
        have ot_86 : n0 ≤ t_86 := Nat.le_trans f85 sx86_0
        have zt_86 : h0.size ≤ t_86 := Nat.le_trans K72.1 sx86_0
        have ne94 : dO ≠ t_86 := Nat.ne_of_lt (Nat.lt_of_lt_of_le f87.lt sx86_0)
        have ne95 : dT ≠ t_86 := Nat.ne_of_lt (Nat.lt_of_lt_of_le f88.lt sx86_0)
        have ne96 : b61 ≠ t_86 := Nat.ne_of_lt (Nat.lt_of_lt_of_le f83.lt sx86_0)
        have ne97 : b72 ≠ t_86 := Nat.ne_of_lt (Nat.lt_of_lt_of_le A72.lt sx86_0)
        have Yn98 : Safe Z own_EL s.vm h72 t_86 := Safe.new sx86_0
        have KK86 : Keep h0 T86.heap [] := Keep.trans K72 K86 (allS (Or.inr z72) all0)
        have CH99 : CHr Z own_EL s.vm h0 s.vm T86.heap := CH78.trans (CHr.keep K86 (sfS Yb79 sf0) CH78.1)
        have N86 := Fr.app N69 N86q
        have pre100 : own_V p e below _ T86 (mkF m 163 #[iv p0, iv p1, iv p2, iv p3, iv p4, iv x5_S0, iv x10_S0, iv x15_S0, iv nn, iv c0, iv c1, iv c2, rv b61, rv b72, .unset, .unset, .unset, .unset, .unset, .unset, .unset] []) := fun t kt => pre82 t (by
         refine st86 _ ?_
         refine XS.astore X86.here hx rfl (hb hby at_161) rfl rfl rfl ?_
         exact kt)
        have f101 := (Nat.le_trans f85 K86.1)
        have f102 := (own_staKeep f84 K86 (nsS A72.nostat ns0))
        have f103 := (own_staKeep (((P_S_Preconditions_SIOOBE_FORMATTER.ext E61).wr W67).ext E72) K86 (nsS A72.nostat ns0))
        have f104 := (own_staKeep (((P_S_Integer_DigitOnes.ext E61).wr W67).ext E72) K86 (nsS A72.nostat ns0))
        have f105 := (own_staKeep (((P_S_Integer_DigitTens.ext E61).wr W67).ext E72) K86 (nsS A72.nostat ns0))
        have f106 := (f87.keep K86 (ninS ne74 nin0))
        have f107 := (f88.keep K86 (ninS ne76 nin0))
        have f108 := (Nat.le_trans (Nat.le_trans (Nat.le_trans (Nat.le_trans (Nat.le_refl h0.size) E61.1) (Keep.of_wr W67).1) E72.1) K86.1)
        exact ⟨T86, _, b61, b72, s.vm, h0.size, b72, t_86, kt_86, [(.int (own_by c0))], X86.more (by decide) (by decide), N86, KK86, CH99, f101, f102, f103, f104, f105, f106, f107, f108, hZ, hown, hS0, f89, f90, f91, (by rw [hc92_59]; exact f93), (own_clh1 hc92_59), rfl, pre100⟩
      · have pre110 : own_V p e below _ T15 (mkF m 111 #[iv p0, iv p1, iv p2, iv p3, iv p4, iv x5_S0, iv x10_S0, iv x15_S0, iv nn, iv c0, iv c1, iv c2, .unset, .unset, .unset, .unset, .unset, .unset, .unset, .unset, .unset] [(.int (2 : Int32)), (.int nn)]) := fun t kt => pre60 t (by
         refine XS.icmpYes X15.here hx rfl (pc0 := 92) (pc' := 108) rfl (hb hby at_92) rfl (feq hc92_59).2 (by decide) (by decide) ?_
         refine XS.iload X15.here hx rfl (hb hby at_108) rfl ?_
         refine XS.iconst X15.here hx rfl (hb hby at_110) ?_
         exact kt)
        by_cases hc111_109 : nn = (2 : Int32)
        · obtain ⟨T111, h111, k111, X111, e111, E111, A111, st111⟩ := newP X15 hx hZ (oG hw 0 rfl) e15 (g := (mkF m 115 #[iv p0, iv p1, iv p2, iv p3, iv p4, iv x5_S0, iv x10_S0, iv x15_S0, iv nn, iv c0, iv c1, iv c2, .unset, .unset, .unset, .unset, .unset, .unset, .unset, .unset, .unset] [(.int (2 : Int32))])) rfl (hb hby at_115) rfl (by decide) (cap := 2) (by decide) (by decide) (by decide) (by decide)
          obtain ⟨b111, g111⟩ : ∃ z, z = h0.size := ⟨_, rfl⟩
          rw [← g111] at A111 st111
          have ne112 : dO ≠ b111 := Nat.ne_of_lt (Nat.lt_of_lt_of_le P_G_dO.lt (Nat.le_of_eq g111.symm))
          have ne113 : dT ≠ b111 := Nat.ne_of_lt (Nat.lt_of_lt_of_le P_G_dT.lt (Nat.le_of_eq g111.symm))
          have o111 : n0 ≤ b111 := Nat.le_trans Z0 (Nat.le_of_eq g111.symm)
          have z111 : h0.size ≤ b111 := Nat.le_trans (Keep.refl h0 []).1 (Nat.le_of_eq g111.symm)
          have CH114 : CHr Z own_EL s.vm h0 s.vm h111 := CH0.trans (CHr.ext E111 CH0.1)
          have Yb115 : Safe Z own_EL s.vm h111 b111 := Safe.ext E111 CH0.1 (Safe.new (Nat.le_of_eq g111.symm))
          have K111 : Keep h0 h111 [] := (Keep.refl h0 []).ext E111
          have V111 : Arv Z h111 b111 k111 .char (2 : Int32) [(.int (0 : Int32)), (.int (0 : Int32))] (.int (0 : Int32)) := (Arv.new A111 (by decide)).pad (pad_rep [] (.int (0 : Int32)) 2)
          obtain ⟨cl116, Ar116, qq116, S116, N116_, H116, G116⟩ := id V111
          have hin116 : ¬ ((0 : Int32) < 0 ∨ cl116.slots.size ≤ ((0 : Int32)).toNatClampNeg) := inb_of S116 ⟨by decide, by decide⟩
          obtain ⟨T117, h117, X117, e117, W117, st117⟩ := stC X111 hx hZ e111 Ar116 (j := (0 : Int32)) hin116 (g := (mkF m 121 #[iv p0, iv p1, iv p2, iv p3, iv p4, iv x5_S0, iv x10_S0, iv x15_S0, iv nn, iv c0, iv c1, iv c2, .unset, .unset, .unset, .unset, .unset, .unset, .unset, .unset, .unset] [(.int c0), (.int (0 : Int32)), (.ref b111), (.ref b111)])) rfl rfl (hb hby at_121)
          have CH118 : CHr Z own_EL s.vm h0 s.vm h117 := CH114.trans (CHr.wr W117 Yb115 CH114.1)
          have V117 : Arv Z h117 b111 k111 .char (2 : Int32) [(.int c0), (.int (0 : Int32))] (.int (0 : Int32)) := by have q_ := Arv.set Ar116 qq116 S116 N116_ H116 G116 (fits_nar_char _) W117 0 rfl (Nat.le_of_ble_eq_true rfl); rw [own_nc8 hc0] at q_; exact q_
          have N119 := Fr.snoc X117 N15 o111
          have K120 : Keep h0 h117 [] := K111.wr W117 (Or.inr z111)
          have f121 : Safe Z own_EL s.vm h117 b111 := (Safe.wr W117 Yb115 CH114.1 Yb115)
          obtain ⟨cl122, Ar122, qq122, S122, N122_, H122, G122⟩ := id V117
          have hin122 : ¬ ((1 : Int32) < 0 ∨ cl122.slots.size ≤ ((1 : Int32)).toNatClampNeg) := inb_of S122 ⟨by decide, by decide⟩
          obtain ⟨T123, h123, X123, e123, W123, st123⟩ := stC X117 hx hZ e117 Ar122 (j := (1 : Int32)) hin122 (g := (mkF m 126 #[iv p0, iv p1, iv p2, iv p3, iv p4, iv x5_S0, iv x10_S0, iv x15_S0, iv nn, iv c0, iv c1, iv c2, .unset, .unset, .unset, .unset, .unset, .unset, .unset, .unset, .unset] [(.int c1), (.int (1 : Int32)), (.ref b111), (.ref b111)])) rfl rfl (hb hby at_126)
          have CH124 : CHr Z own_EL s.vm h0 s.vm h123 := CH118.trans (CHr.wr W123 f121 CH118.1)
          have V123 : Arv Z h123 b111 k111 .char (2 : Int32) [(.int c0), (.int c1)] (.int (0 : Int32)) := by have q_ := Arv.set Ar122 qq122 S122 N122_ H122 G122 (fits_nar_char _) W123 1 rfl (Nat.le_of_ble_eq_true rfl); rw [own_nc8 hc1] at q_; exact q_
          have N125 := Fr.snoc X123 N119 o111
          have K126 : Keep h0 h123 [] := K120.wr W123 (Or.inr z111)
          have f127 := (Nat.le_trans (Nat.le_trans (Nat.le_trans Z0 E111.1) (Keep.of_wr W117).1) (Keep.of_wr W123).1)
          obtain ⟨T128, h128, X128, e128, E128, A128, D128, U128, st128⟩ := newO X123 hx hZ hown (oG hw 1 rfl) (oG hw 2 rfl) (oG hw 3 rfl) e123 (g := (mkF m 152 #[iv p0, iv p1, iv p2, iv p3, iv p4, iv x5_S0, iv x10_S0, iv x15_S0, iv nn, iv c0, iv c1, iv c2, rv b111, .unset, .unset, .unset, .unset, .unset, .unset, .unset, .unset] [])) rfl (hb hby at_152) (by decide) (by decide)
          obtain ⟨b128, g128⟩ : ∃ z, z = h123.size := ⟨_, rfl⟩
          rw [← g128] at A128 D128 U128 st128
          have f129 := (((P_G_dO.ext E111).other W117 ne112).other W123 ne112)
          have ne130 : dO ≠ b128 := Nat.ne_of_lt (Nat.lt_of_lt_of_le f129.lt (Nat.le_of_eq g128.symm))
          have f131 := (((P_G_dT.ext E111).other W117 ne113).other W123 ne113)
          have ne132 : dT ≠ b128 := Nat.ne_of_lt (Nat.lt_of_lt_of_le f131.lt (Nat.le_of_eq g128.symm))
          have ne133 : b111 ≠ b128 := Nat.ne_of_lt (Nat.lt_of_lt_of_le V123.lt (Nat.le_of_eq g128.symm))
          have o128 : n0 ≤ b128 := Nat.le_trans f127 (Nat.le_of_eq g128.symm)
          have z128 : h0.size ≤ b128 := Nat.le_trans K126.1 (Nat.le_of_eq g128.symm)
          have CH134 : CHr Z own_EL s.vm h0 s.vm h128 := CH124.trans (CHr.ext E128 CH124.1)
          have Yb135 : Safe Z own_EL s.vm h128 b128 := Safe.ext E128 CH124.1 (Safe.new (Nat.le_of_eq g128.symm))
          have K128 : Keep h0 h128 [] := K126.ext E128
          have f136 : Fld Z h128 b128 "java/lang/String" "value" "[B" .null := D128 (Or.inr (oG hw 16 rfl)) (ty := (.array .byte)) (by decide)
          have f137 : Fld Z h128 b128 "java/lang/String" "coder" "B" (.int (0 : Int32)) := D128 (Or.inr (oG hw 17 rfl)) (ty := .byte) (by decide)
          have pre138 : own_V p e below _ T128 (mkF m 158 #[iv p0, iv p1, iv p2, iv p3, iv p4, iv x5_S0, iv x10_S0, iv x15_S0, iv nn, iv c0, iv c1, iv c2, rv b111, .unset, .unset, .unset, .unset, .unset, .unset, .unset, .unset] [(.ref b111), (.ref b128), (.ref b128)]) := fun t kt => pre110 t (by
           refine XS.icmpNo X15.here hx rfl (hb hby at_111) rfl (teq hc111_109).2 ?_
           refine XS.iconst X15.here hx rfl (hb hby at_114) ?_
           refine st111 _ ?_
           refine XS.dup X111.here hx rfl (hb hby at_117) rfl rfl ?_
           refine XS.iconst X111.here hx rfl (hb hby at_118) ?_
           refine XS.iload X111.here hx rfl (hb hby at_119) rfl ?_
           refine st117 _ ?_
           refine XS.dup X117.here hx rfl (hb hby at_122) rfl rfl ?_
           refine XS.iconst X117.here hx rfl (hb hby at_123) ?_
           refine XS.iload X117.here hx rfl (hb hby at_124) rfl ?_
           refine st123 _ ?_
           refine XS.astore X123.here hx rfl (hb hby at_127) rfl rfl rfl ?_
           refine XS.goto X123.here hx rfl (pc0 := 129) (pc' := 152) rfl (hb hby at_129) (by decide) (by decide) ?_
           refine st128 _ ?_
           show Steps _ _ _ (T128.setTop (mkF m 155 #[iv p0, iv p1, iv p2, iv p3, iv p4, iv x5_S0, iv x10_S0, iv x15_S0, iv nn, iv c0, iv c1, iv c2, rv b111, .unset, .unset, .unset, .unset, .unset, .unset, .unset, .unset] [(.ref b128)])) _
           refine XS.dup X128.here hx rfl (hb hby at_155) rfl rfl ?_
           refine XS.aload X128.here hx rfl (hb hby at_156) rfl rfl ?_
           exact kt)
          have f139 := (V123.ext E128)
          have f140 := ((((P_S_String_COMPACT_STRINGS.ext E111).wr W117).wr W123).ext E128)
          have f141 := (Nat.le_trans f127 E128.1)
          obtain ⟨_, T142, L142, X142, hQ142, st142⟩ := own_cI X128 hx rfl hown hZ (oG hw 4 rfl) (oG hw 5 rfl) (oG hw 3 rfl) (oG hw 6 rfl) (by decide) (rmI1_2 l Z a0 hw [] b128 b111 k111 c0 c1 zC h128 n0 f141 A128 f136 f137 f139 (Ne.symm ne133) hc0 hc1 f140 hz o128) (W := 1) (by decide) (by decide) (g := (mkF m 158 #[iv p0, iv p1, iv p2, iv p3, iv p4, iv x5_S0, iv x10_S0, iv x15_S0, iv nn, iv c0, iv c1, iv c2, rv b111, .unset, .unset, .unset, .unset, .unset, .unset, .unset, .unset] [(.ref b111), (.ref b128), (.ref b128)])) rfl (by rw [hml]; rfl) (a := b128) (argsL := [(.ref b111)]) (rest := [(.ref b128)]) (lenOf pd34 rfl) rfl (own_ww rfl) (hb hby at_158) e128 rfl (by decide) (by decide)
          have f143 := (f129.ext E128)
          have f144 := (f131.ext E128)
          obtain ⟨t_142, kt_142, rfl, N142q, K142, sx142_0, f145, f146, f147, f148, f149⟩ := hQ142
          have ot_142 : n0 ≤ t_142 := Nat.le_trans f141 sx142_0
          have zt_142 : h0.size ≤ t_142 := Nat.le_trans K128.1 sx142_0
          have ne150 : dO ≠ t_142 := Nat.ne_of_lt (Nat.lt_of_lt_of_le f143.lt sx142_0)
          have ne151 : dT ≠ t_142 := Nat.ne_of_lt (Nat.lt_of_lt_of_le f144.lt sx142_0)
          have ne152 : b111 ≠ t_142 := Nat.ne_of_lt (Nat.lt_of_lt_of_le f139.lt sx142_0)
          have ne153 : b128 ≠ t_142 := Nat.ne_of_lt (Nat.lt_of_lt_of_le A128.lt sx142_0)
          have Yn154 : Safe Z own_EL s.vm h128 t_142 := Safe.new sx142_0
          have KK142 : Keep h0 T142.heap [] := Keep.trans K128 K142 (allS (Or.inr z128) all0)
          have CH155 : CHr Z own_EL s.vm h0 s.vm T142.heap := CH134.trans (CHr.keep K142 (sfS Yb135 sf0) CH134.1)
          have N142 := Fr.app N125 N142q
          have pre156 : own_V p e below _ T142 (mkF m 163 #[iv p0, iv p1, iv p2, iv p3, iv p4, iv x5_S0, iv x10_S0, iv x15_S0, iv nn, iv c0, iv c1, iv c2, rv b111, rv b128, .unset, .unset, .unset, .unset, .unset, .unset, .unset] []) := fun t kt => pre138 t (by
           refine st142 _ ?_
           refine XS.astore X142.here hx rfl (hb hby at_161) rfl rfl rfl ?_
           exact kt)
          have f157 := (Nat.le_trans f141 K142.1)
          have f158 := (own_staKeep f140 K142 (nsS A128.nostat ns0))
          have f159 := (own_staKeep ((((P_S_Preconditions_SIOOBE_FORMATTER.ext E111).wr W117).wr W123).ext E128) K142 (nsS A128.nostat ns0))
          have f160 := (own_staKeep ((((P_S_Integer_DigitOnes.ext E111).wr W117).wr W123).ext E128) K142 (nsS A128.nostat ns0))
          have f161 := (own_staKeep ((((P_S_Integer_DigitTens.ext E111).wr W117).wr W123).ext E128) K142 (nsS A128.nostat ns0))
          have f162 := (f143.keep K142 (ninS ne130 nin0))
          have f163 := (f144.keep K142 (ninS ne132 nin0))
          have f164 := (Nat.le_trans (Nat.le_trans (Nat.le_trans (Nat.le_trans (Nat.le_trans (Nat.le_refl h0.size) E111.1) (Keep.of_wr W117).1) (Keep.of_wr W123).1) E128.1) K142.1)
          exact ⟨T142, _, b111, b128, s.vm, h0.size, b128, t_142, kt_142, [(.int (own_by c0)), (.int (own_by c1))], X142.more (by decide) (by decide), N142, KK142, CH155, f157, f158, f159, f160, f161, f162, f163, f164, hZ, hown, hS0, f145, f146, f147, (by rw [hc111_109]; exact f149), (own_clh2 hc111_109), rfl, pre156⟩
        · obtain ⟨T165, h165, k165, X165, e165, E165, A165, st165⟩ := newP X15 hx hZ (oG hw 0 rfl) e15 (g := (mkF m 133 #[iv p0, iv p1, iv p2, iv p3, iv p4, iv x5_S0, iv x10_S0, iv x15_S0, iv nn, iv c0, iv c1, iv c2, .unset, .unset, .unset, .unset, .unset, .unset, .unset, .unset, .unset] [(.int (3 : Int32))])) rfl (hb hby at_133) rfl (by decide) (cap := 3) (by decide) (by decide) (by decide) (by decide)
          obtain ⟨b165, g165⟩ : ∃ z, z = h0.size := ⟨_, rfl⟩
          rw [← g165] at A165 st165
          have ne166 : dO ≠ b165 := Nat.ne_of_lt (Nat.lt_of_lt_of_le P_G_dO.lt (Nat.le_of_eq g165.symm))
          have ne167 : dT ≠ b165 := Nat.ne_of_lt (Nat.lt_of_lt_of_le P_G_dT.lt (Nat.le_of_eq g165.symm))
          have o165 : n0 ≤ b165 := Nat.le_trans Z0 (Nat.le_of_eq g165.symm)
          have z165 : h0.size ≤ b165 := Nat.le_trans (Keep.refl h0 []).1 (Nat.le_of_eq g165.symm)
          have CH168 : CHr Z own_EL s.vm h0 s.vm h165 := CH0.trans (CHr.ext E165 CH0.1)
          have Yb169 : Safe Z own_EL s.vm h165 b165 := Safe.ext E165 CH0.1 (Safe.new (Nat.le_of_eq g165.symm))
          have K165 : Keep h0 h165 [] := (Keep.refl h0 []).ext E165
          have V165 : Arv Z h165 b165 k165 .char (3 : Int32) [(.int (0 : Int32)), (.int (0 : Int32)), (.int (0 : Int32))] (.int (0 : Int32)) := (Arv.new A165 (by decide)).pad (pad_rep [] (.int (0 : Int32)) 3)
          obtain ⟨cl170, Ar170, qq170, S170, N170_, H170, G170⟩ := id V165
          have hin170 : ¬ ((0 : Int32) < 0 ∨ cl170.slots.size ≤ ((0 : Int32)).toNatClampNeg) := inb_of S170 ⟨by decide, by decide⟩
          obtain ⟨T171, h171, X171, e171, W171, st171⟩ := stC X165 hx hZ e165 Ar170 (j := (0 : Int32)) hin170 (g := (mkF m 139 #[iv p0, iv p1, iv p2, iv p3, iv p4, iv x5_S0, iv x10_S0, iv x15_S0, iv nn, iv c0, iv c1, iv c2, .unset, .unset, .unset, .unset, .unset, .unset, .unset, .unset, .unset] [(.int c0), (.int (0 : Int32)), (.ref b165), (.ref b165)])) rfl rfl (hb hby at_139)
          have CH172 : CHr Z own_EL s.vm h0 s.vm h171 := CH168.trans (CHr.wr W171 Yb169 CH168.1)
          have V171 : Arv Z h171 b165 k165 .char (3 : Int32) [(.int c0), (.int (0 : Int32)), (.int (0 : Int32))] (.int (0 : Int32)) := by have q_ := Arv.set Ar170 qq170 S170 N170_ H170 G170 (fits_nar_char _) W171 0 rfl (Nat.le_of_ble_eq_true rfl); rw [own_nc8 hc0] at q_; exact q_
          have N173 := Fr.snoc X171 N15 o165
          have K174 : Keep h0 h171 [] := K165.wr W171 (Or.inr z165)
          have f175 : Safe Z own_EL s.vm h171 b165 := (Safe.wr W171 Yb169 CH168.1 Yb169)
          obtain ⟨cl176, Ar176, qq176, S176, N176_, H176, G176⟩ := id V171
          have hin176 : ¬ ((1 : Int32) < 0 ∨ cl176.slots.size ≤ ((1 : Int32)).toNatClampNeg) := inb_of S176 ⟨by decide, by decide⟩
          obtain ⟨T177, h177, X177, e177, W177, st177⟩ := stC X171 hx hZ e171 Ar176 (j := (1 : Int32)) hin176 (g := (mkF m 144 #[iv p0, iv p1, iv p2, iv p3, iv p4, iv x5_S0, iv x10_S0, iv x15_S0, iv nn, iv c0, iv c1, iv c2, .unset, .unset, .unset, .unset, .unset, .unset, .unset, .unset, .unset] [(.int c1), (.int (1 : Int32)), (.ref b165), (.ref b165)])) rfl rfl (hb hby at_144)
          have CH178 : CHr Z own_EL s.vm h0 s.vm h177 := CH172.trans (CHr.wr W177 f175 CH172.1)
          have V177 : Arv Z h177 b165 k165 .char (3 : Int32) [(.int c0), (.int c1), (.int (0 : Int32))] (.int (0 : Int32)) := by have q_ := Arv.set Ar176 qq176 S176 N176_ H176 G176 (fits_nar_char _) W177 1 rfl (Nat.le_of_ble_eq_true rfl); rw [own_nc8 hc1] at q_; exact q_
          have N179 := Fr.snoc X177 N173 o165
          have K180 : Keep h0 h177 [] := K174.wr W177 (Or.inr z165)
          have f181 : Safe Z own_EL s.vm h177 b165 := (Safe.wr W177 f175 CH172.1 f175)
          obtain ⟨cl182, Ar182, qq182, S182, N182_, H182, G182⟩ := id V177
          have hin182 : ¬ ((2 : Int32) < 0 ∨ cl182.slots.size ≤ ((2 : Int32)).toNatClampNeg) := inb_of S182 ⟨by decide, by decide⟩
          obtain ⟨T183, h183, X183, e183, W183, st183⟩ := stC X177 hx hZ e177 Ar182 (j := (2 : Int32)) hin182 (g := (mkF m 149 #[iv p0, iv p1, iv p2, iv p3, iv p4, iv x5_S0, iv x10_S0, iv x15_S0, iv nn, iv c0, iv c1, iv c2, .unset, .unset, .unset, .unset, .unset, .unset, .unset, .unset, .unset] [(.int c2), (.int (2 : Int32)), (.ref b165), (.ref b165)])) rfl rfl (hb hby at_149)
          have CH184 : CHr Z own_EL s.vm h0 s.vm h183 := CH178.trans (CHr.wr W183 f181 CH178.1)
          have V183 : Arv Z h183 b165 k165 .char (3 : Int32) [(.int c0), (.int c1), (.int c2)] (.int (0 : Int32)) := by have q_ := Arv.set Ar182 qq182 S182 N182_ H182 G182 (fits_nar_char _) W183 2 rfl (Nat.le_of_ble_eq_true rfl); rw [own_nc8 hc2] at q_; exact q_
          have N185 := Fr.snoc X183 N179 o165
          have K186 : Keep h0 h183 [] := K180.wr W183 (Or.inr z165)
          have f187 := (Nat.le_trans (Nat.le_trans (Nat.le_trans (Nat.le_trans Z0 E165.1) (Keep.of_wr W171).1) (Keep.of_wr W177).1) (Keep.of_wr W183).1)
          obtain ⟨T188, h188, X188, e188, E188, A188, D188, U188, st188⟩ := newO X183 hx hZ hown (oG hw 1 rfl) (oG hw 2 rfl) (oG hw 3 rfl) e183 (g := (mkF m 152 #[iv p0, iv p1, iv p2, iv p3, iv p4, iv x5_S0, iv x10_S0, iv x15_S0, iv nn, iv c0, iv c1, iv c2, rv b165, .unset, .unset, .unset, .unset, .unset, .unset, .unset, .unset] [])) rfl (hb hby at_152) (by decide) (by decide)
          obtain ⟨b188, g188⟩ : ∃ z, z = h183.size := ⟨_, rfl⟩
          rw [← g188] at A188 D188 U188 st188
          have f189 := ((((P_G_dO.ext E165).other W171 ne166).other W177 ne166).other W183 ne166)
          have ne190 : dO ≠ b188 := Nat.ne_of_lt (Nat.lt_of_lt_of_le f189.lt (Nat.le_of_eq g188.symm))
          have f191 := ((((P_G_dT.ext E165).other W171 ne167).other W177 ne167).other W183 ne167)
          have ne192 : dT ≠ b188 := Nat.ne_of_lt (Nat.lt_of_lt_of_le f191.lt (Nat.le_of_eq g188.symm))
          have ne193 : b165 ≠ b188 := Nat.ne_of_lt (Nat.lt_of_lt_of_le V183.lt (Nat.le_of_eq g188.symm))
          have o188 : n0 ≤ b188 := Nat.le_trans f187 (Nat.le_of_eq g188.symm)
          have z188 : h0.size ≤ b188 := Nat.le_trans K186.1 (Nat.le_of_eq g188.symm)
          have CH194 : CHr Z own_EL s.vm h0 s.vm h188 := CH184.trans (CHr.ext E188 CH184.1)
          have Yb195 : Safe Z own_EL s.vm h188 b188 := Safe.ext E188 CH184.1 (Safe.new (Nat.le_of_eq g188.symm))
          have K188 : Keep h0 h188 [] := K186.ext E188
          have f196 : Fld Z h188 b188 "java/lang/String" "value" "[B" .null := D188 (Or.inr (oG hw 16 rfl)) (ty := (.array .byte)) (by decide)
          have f197 : Fld Z h188 b188 "java/lang/String" "coder" "B" (.int (0 : Int32)) := D188 (Or.inr (oG hw 17 rfl)) (ty := .byte) (by decide)
          have pre198 : own_V p e below _ T188 (mkF m 158 #[iv p0, iv p1, iv p2, iv p3, iv p4, iv x5_S0, iv x10_S0, iv x15_S0, iv nn, iv c0, iv c1, iv c2, rv b165, .unset, .unset, .unset, .unset, .unset, .unset, .unset, .unset] [(.ref b165), (.ref b188), (.ref b188)]) := fun t kt => pre110 t (by
           refine XS.icmpYes X15.here hx rfl (pc0 := 111) (pc' := 132) rfl (hb hby at_111) rfl (feq hc111_109).2 (by decide) (by decide) ?_
           refine XS.iconst X15.here hx rfl (hb hby at_132) ?_
           refine st165 _ ?_
           refine XS.dup X165.here hx rfl (hb hby at_135) rfl rfl ?_
           refine XS.iconst X165.here hx rfl (hb hby at_136) ?_
           refine XS.iload X165.here hx rfl (hb hby at_137) rfl ?_
           refine st171 _ ?_
           refine XS.dup X171.here hx rfl (hb hby at_140) rfl rfl ?_
           refine XS.iconst X171.here hx rfl (hb hby at_141) ?_
           refine XS.iload X171.here hx rfl (hb hby at_142) rfl ?_
           refine st177 _ ?_
           refine XS.dup X177.here hx rfl (hb hby at_145) rfl rfl ?_
           refine XS.iconst X177.here hx rfl (hb hby at_146) ?_
           refine XS.iload X177.here hx rfl (hb hby at_147) rfl ?_
           refine st183 _ ?_
           refine XS.astore X183.here hx rfl (hb hby at_150) rfl rfl rfl ?_
           refine st188 _ ?_
           refine XS.dup X188.here hx rfl (hb hby at_155) rfl rfl ?_
           refine XS.aload X188.here hx rfl (hb hby at_156) rfl rfl ?_
           exact kt)
          have f199 := (V183.ext E188)
          have f200 := (((((P_S_String_COMPACT_STRINGS.ext E165).wr W171).wr W177).wr W183).ext E188)
          have f201 := (Nat.le_trans f187 E188.1)
          obtain ⟨_, T202, L202, X202, hQ202, st202⟩ := own_cI X188 hx rfl hown hZ (oG hw 4 rfl) (oG hw 5 rfl) (oG hw 3 rfl) (oG hw 6 rfl) (by decide) (rmI1_3 l Z a0 hw [] b188 b165 k165 c0 c1 c2 zC h188 n0 f201 A188 f196 f197 f199 (Ne.symm ne193) hc0 hc1 hc2 f200 hz o188) (W := 1) (by decide) (by decide) (g := (mkF m 158 #[iv p0, iv p1, iv p2, iv p3, iv p4, iv x5_S0, iv x10_S0, iv x15_S0, iv nn, iv c0, iv c1, iv c2, rv b165, .unset, .unset, .unset, .unset, .unset, .unset, .unset, .unset] [(.ref b165), (.ref b188), (.ref b188)])) rfl (by rw [hml]; rfl) (a := b188) (argsL := [(.ref b165)]) (rest := [(.ref b188)]) (lenOf pd34 rfl) rfl (own_ww rfl) (hb hby at_158) e188 rfl (by decide) (by decide)
          have f203 := (f189.ext E188)
          have f204 := (f191.ext E188)
          obtain ⟨t_202, kt_202, rfl, N202q, K202, sx202_0, f205, f206, f207, f208, f209⟩ := hQ202
          have ot_202 : n0 ≤ t_202 := Nat.le_trans f201 sx202_0
          have zt_202 : h0.size ≤ t_202 := Nat.le_trans K188.1 sx202_0
          have ne210 : dO ≠ t_202 := Nat.ne_of_lt (Nat.lt_of_lt_of_le f203.lt sx202_0)
          have ne211 : dT ≠ t_202 := Nat.ne_of_lt (Nat.lt_of_lt_of_le f204.lt sx202_0)
          have ne212 : b165 ≠ t_202 := Nat.ne_of_lt (Nat.lt_of_lt_of_le f199.lt sx202_0)
          have ne213 : b188 ≠ t_202 := Nat.ne_of_lt (Nat.lt_of_lt_of_le A188.lt sx202_0)
          have Yn214 : Safe Z own_EL s.vm h188 t_202 := Safe.new sx202_0
          have KK202 : Keep h0 T202.heap [] := Keep.trans K188 K202 (allS (Or.inr z188) all0)
          have CH215 : CHr Z own_EL s.vm h0 s.vm T202.heap := CH194.trans (CHr.keep K202 (sfS Yb195 sf0) CH194.1)
          have N202 := Fr.app N185 N202q
          have pre216 : own_V p e below _ T202 (mkF m 163 #[iv p0, iv p1, iv p2, iv p3, iv p4, iv x5_S0, iv x10_S0, iv x15_S0, iv nn, iv c0, iv c1, iv c2, rv b165, rv b188, .unset, .unset, .unset, .unset, .unset, .unset, .unset] []) := fun t kt => pre198 t (by
           refine st202 _ ?_
           refine XS.astore X202.here hx rfl (hb hby at_161) rfl rfl rfl ?_
           exact kt)
          have f217 := (Nat.le_trans f201 K202.1)
          have f218 := (own_staKeep f200 K202 (nsS A188.nostat ns0))
          have f219 := (own_staKeep (((((P_S_Preconditions_SIOOBE_FORMATTER.ext E165).wr W171).wr W177).wr W183).ext E188) K202 (nsS A188.nostat ns0))
          have f220 := (own_staKeep (((((P_S_Integer_DigitOnes.ext E165).wr W171).wr W177).wr W183).ext E188) K202 (nsS A188.nostat ns0))
          have f221 := (own_staKeep (((((P_S_Integer_DigitTens.ext E165).wr W171).wr W177).wr W183).ext E188) K202 (nsS A188.nostat ns0))
          have f222 := (f203.keep K202 (ninS ne190 nin0))
          have f223 := (f204.keep K202 (ninS ne192 nin0))
          have f224 := (Nat.le_trans (Nat.le_trans (Nat.le_trans (Nat.le_trans (Nat.le_trans (Nat.le_trans (Nat.le_refl h0.size) E165.1) (Keep.of_wr W171).1) (Keep.of_wr W177).1) (Keep.of_wr W183).1) E188.1) K202.1)
          exact ⟨T202, _, b165, b188, s.vm, h0.size, b188, t_202, kt_202, [(.int (own_by c0)), (.int (own_by c1)), (.int (own_by c2))], X202.more (by decide) (by decide), N202, KK202, CH215, f217, f218, f219, f220, f221, f222, f223, f224, hZ, hown, hS0, f205, f206, f207, (by rw [(own_n3e hnn hc78_17 hc92_59 hc111_109)]; exact f209), (own_clh3 (own_n3e hnn hc78_17 hc92_59 hc111_109)), rfl, pre216⟩
  obtain ⟨T225, L225, x225_L12, x225_L13, vm225, kx225, sgx, tx, ktx, vsx, X225, N225, K225, CH225, f226, f227, f228, f229, f230, f231, f232, f233, hZ225, hown225, hS225, f234, f235, f236, f237, whc, mq225_L13, pre225⟩ := Mg225
  rw [mq225_L13] at pre225
  have pre238 : own_V p e below _ T225 (mkF m 180 #[iv p0, iv p1, iv p2, iv p3, iv p4, iv x5_S0, iv x10_S0, iv x15_S0, iv nn, iv c0, iv c1, iv c2, rv x225_L12, rv sgx, iv ((1 : Int32) + ((p2 &&& (2147483647 : Int32)) % (65535 : Int32))), iv (p3 &&& (2147483647 : Int32)), .unset, .unset, .unset, .unset, .unset] []) := fun t kt => pre225 t (by
   refine XS.iconst X225.here hx rfl (hb hby at_163) ?_
   show Steps _ _ _ (T225.setTop (mkF m 164 #[iv p0, iv p1, iv p2, iv p3, iv p4, iv x5_S0, iv x10_S0, iv x15_S0, iv nn, iv c0, iv c1, iv c2, rv x225_L12, rv sgx, .unset, .unset, .unset, .unset, .unset, .unset, .unset] [(.int (1 : Int32))])) _
   refine XS.iloadN X225.here hx rfl (hb hby at_164) rfl ?_
   refine X225.ldcInt hx hown225 (mvT hZ225 (oG hw 22 rfl)) (g := (mkF m 165 #[iv p0, iv p1, iv p2, iv p3, iv p4, iv x5_S0, iv x10_S0, iv x15_S0, iv nn, iv c0, iv c1, iv c2, rv x225_L12, rv sgx, .unset, .unset, .unset, .unset, .unset, .unset, .unset] [(.int p2), (.int (1 : Int32))])) rfl (hb hby at_165) _ ?_
   refine XS.iand X225.here hx rfl (hb hby at_167) rfl ?_
   refine X225.ldcInt hx hown225 (mvT hZ225 (oG hw 23 rfl)) (g := (mkF m 168 #[iv p0, iv p1, iv p2, iv p3, iv p4, iv x5_S0, iv x10_S0, iv x15_S0, iv nn, iv c0, iv c1, iv c2, rv x225_L12, rv sgx, .unset, .unset, .unset, .unset, .unset, .unset, .unset] [(.int (p2 &&& (2147483647 : Int32))), (.int (1 : Int32))])) rfl (hb hby at_168) _ ?_
   refine iremM X225 hx rfl (hb hby at_170) rfl (by decide : ¬ ((65535 : Int32) = (0 : Int32))) ?_
   refine XS.iadd X225.here hx rfl (hb hby at_171) rfl ?_
   refine XS.istore X225.here hx rfl (hb hby at_172) rfl rfl ?_
   refine XS.iloadN X225.here hx rfl (hb hby at_174) rfl ?_
   refine X225.ldcInt hx hown225 (mvT hZ225 (oG hw 22 rfl)) (g := (mkF m 175 #[iv p0, iv p1, iv p2, iv p3, iv p4, iv x5_S0, iv x10_S0, iv x15_S0, iv nn, iv c0, iv c1, iv c2, rv x225_L12, rv sgx, iv ((1 : Int32) + ((p2 &&& (2147483647 : Int32)) % (65535 : Int32))), .unset, .unset, .unset, .unset, .unset, .unset] [(.int p3)])) rfl (hb hby at_175) _ ?_
   refine XS.iand X225.here hx rfl (hb hby at_177) rfl ?_
   refine XS.istore X225.here hx rfl (hb hby at_178) rfl rfl ?_
   exact kt)
  obtain ⟨po, e_po, hpo⟩ : ∃ c_, ((1 : Int32) + ((p2 &&& (2147483647 : Int32)) % (65535 : Int32))) = c_ ∧ (¬ c_ < 0 ∧ ¬ (65535 : Int32) < c_) := ⟨_, rfl, own_pt _⟩
  rw [e_po] at pre238
  obtain ⟨db, e_db, hdb⟩ : ∃ c_, (p3 &&& (2147483647 : Int32)) = c_ ∧ (¬ c_ < 0) := ⟨_, rfl, own_db0 _⟩
  rw [e_db] at pre238
  have Mg544 : ∃ (T544 : State) (L544 : List Loc) (y0 : Slot) (y1 : Slot) (y2 : Slot) (y3 : Slot) (y4 : Slot) (y7 : Slot) (y12 : Slot) (y13 : Slot) (y16 : Slot) (y17 : Slot) (y18 : Slot) (x544_L19 : Addr) (vm544 : Vm) (kx544 : Nat) (sgt : Addr) (yvt : Addr) (kyt : ClassId) (zlt : Int32) (yst : List Value), Stand p l e room_1 (s.setVm vm544) m #[(.int p0), (.int p1), (.int p2), (.int p3), (.int p4)] below meth c T544 L544 34 439 ∧ Fr n0 L544 ∧ Keep h0 T544.heap [] ∧ CHr Z own_EL s.vm h0 vm544 T544.heap ∧ n0 ≤ T544.heap.size ∧ Sta Z T544.heap "java/lang/String" "COMPACT_STRINGS" "Z" (.int zC) ∧ Sta Z T544.heap "jdk/internal/util/Preconditions" "SIOOBE_FORMATTER" "Ljava/util/function/BiFunction;" fv ∧ kx544 ≤ T544.heap.size ∧ Z.Warmed39 (s.setVm vm544).vm ∧ (s.setVm vm544).vm.findClass "com/example/fastpath/fastpath/settings/RedisServerToStringPinLaw" = some m.cls ∧ s.Since vm544 kx544 ∧ Exa Z T544.heap sgt "java/lang/String" ∧ Fld Z T544.heap sgt "java/lang/String" "value" "[B" (.ref yvt) ∧ Fld Z T544.heap sgt "java/lang/String" "coder" "B" (.int (0 : Int32)) ∧ Arv Z T544.heap yvt kyt .byte zlt yst (.int 0) ∧ (own_rst yst zlt (0 : Int32) ((114 : Int32) :: ((101 : Int32) :: ((100 : Int32) :: ((105 : Int32) :: ((115 : Int32) :: (own_tl x5_S0 ++ ((58 : Int32) :: ((47 : Int32) :: ((47 : Int32) :: (own_lg x10_S0 ++ (own_t0 nn c0 c1 c2 ++ ((58 : Int32) :: (own_dl po ++ ((47 : Int32) :: (own_dl db ++ ([] : List Int32))))))))))))))))) ∧ x544_L19 = sgt ∧ own_V p e below (s₁.setTop (entryFrame m #[(.int p0), (.int p1), (.int p2), (.int p3), (.int p4)] maxLocals)) T544 (mkF m 268 #[y0, y1, y2, y3, y4, iv x5_S0, iv x10_S0, y7, iv nn, iv c0, iv c1, iv c2, y12, y13, iv po, iv db, y16, y17, y18, rv x544_L19, .unset] []) := by
    have pre240 : own_V p e below _ T225 (mkF m 182 #[iv p0, iv p1, iv p2, iv p3, iv p4, iv x5_S0, iv x10_S0, iv x15_S0, iv nn, iv c0, iv c1, iv c2, rv x225_L12, rv sgx, iv po, iv db, .unset, .unset, .unset, .unset, .unset] [(.int x10_S0)]) := fun t kt => pre238 t (by
     refine XS.iload X225.here hx rfl (hb hby at_180) rfl ?_
     exact kt)
    by_cases hc182_239 : x10_S0 = (0 : Int32)
    · obtain ⟨T241, h241, X241, e241, E241, A241, D241, U241, st241⟩ := newO X225 hx hZ225 hown225 (oG hw 24 rfl) (oG hw 25 rfl) (oG hw 26 rfl) rfl (g := (mkF m 240 #[iv p0, iv p1, iv p2, iv p3, iv p4, iv x5_S0, iv x10_S0, iv x15_S0, iv nn, iv c0, iv c1, iv c2, rv x225_L12, rv sgx, iv po, iv db, .val .null, .val .null, .unset, .unset, .unset] [])) rfl (hb hby at_240) (by decide) (by decide)
      obtain ⟨b241, g241⟩ : ∃ z, z = T225.heap.size := ⟨_, rfl⟩
      rw [← g241] at A241 D241 U241 st241
      have ne242 : sgx ≠ b241 := Nat.ne_of_lt (Nat.lt_of_lt_of_le f234.lt (Nat.le_of_eq g241.symm))
      have ne243 : tx ≠ b241 := Nat.ne_of_lt (Nat.lt_of_lt_of_le f237.lt (Nat.le_of_eq g241.symm))
      have ne244 : dO ≠ b241 := Nat.ne_of_lt (Nat.lt_of_lt_of_le f231.lt (Nat.le_of_eq g241.symm))
      have ne245 : dT ≠ b241 := Nat.ne_of_lt (Nat.lt_of_lt_of_le f232.lt (Nat.le_of_eq g241.symm))
      have o241 : n0 ≤ b241 := Nat.le_trans f226 (Nat.le_of_eq g241.symm)
      have z241 : h0.size ≤ b241 := Nat.le_trans K225.1 (Nat.le_of_eq g241.symm)
      have CH246 : CHr Z own_EL s.vm h0 vm225 h241 := CH225.trans (CHr.ext E241 CH225.1)
      have Yb247 : Safe Z own_EL vm225 h241 b241 := Safe.ext E241 CH225.1 (Safe.new (Nat.le_of_eq g241.symm))
      have K241 : Keep h0 h241 [] := K225.ext E241
      have f248 : Fld Z h241 b241 "com/example/fastpath/fastpath/settings/RedisServer" "tls" "Z" (.int (0 : Int32)) := D241 (Or.inr (oG hw 37 rfl)) (ty := .boolean) (by decide)
      have f249 : Fld Z h241 b241 "com/example/fastpath/fastpath/settings/RedisServer" "host" "Ljava/lang/String;" .null := D241 (Or.inr (oG hw 39 rfl)) (ty := (.object "java/lang/String")) (by decide)
      have f250 : Fld Z h241 b241 "com/example/fastpath/fastpath/settings/RedisServer" "port" "I" (.int (0 : Int32)) := D241 (Or.inr (oG hw 41 rfl)) (ty := .int) (by decide)
      have f251 : Fld Z h241 b241 "com/example/fastpath/fastpath/settings/RedisServer" "user" "Ljava/lang/String;" .null := D241 (Or.inr (oG hw 43 rfl)) (ty := (.object "java/lang/String")) (by decide)
      have f252 : Fld Z h241 b241 "com/example/fastpath/fastpath/settings/RedisServer" "password" "Ljava/lang/String;" .null := D241 (Or.inr (oG hw 45 rfl)) (ty := (.object "java/lang/String")) (by decide)
      have f253 : Fld Z h241 b241 "com/example/fastpath/fastpath/settings/RedisServer" "database" "I" (.int (0 : Int32)) := D241 (Or.inr (oG hw 47 rfl)) (ty := .int) (by decide)
      have pre254 : own_V p e below _ T241 (mkF m 256 #[iv p0, iv p1, iv p2, iv p3, iv p4, iv x5_S0, iv x10_S0, iv x15_S0, iv nn, iv c0, iv c1, iv c2, rv x225_L12, rv sgx, iv po, iv db, .val .null, .val .null, .unset, .unset, .unset] [(.int db), .null, .null, (.int po), (.ref sgx), (.int x5_S0), (.ref b241), (.ref b241)]) := fun t kt => pre240 t (by
       refine XS.ifYes X225.here hx rfl (pc0 := 182) (pc' := 208) rfl (hb hby at_182) rfl ((if0 _ _).trans (teq hc182_239).1) (by decide) (by decide) ?_
       refine XS.aconstNull X225.here hx rfl (hb hby at_208) ?_
       refine XS.astore X225.here hx rfl (hb hby at_209) rfl rfl rfl ?_
       refine XS.iload X225.here hx rfl (hb hby at_211) rfl ?_
       refine XS.ifYes X225.here hx rfl (pc0 := 213) (pc' := 237) rfl (hb hby at_213) rfl ((if0 _ _).trans (teq hc182_239).1) (by decide) (by decide) ?_
       refine XS.aconstNull X225.here hx rfl (hb hby at_237) ?_
       refine XS.astore X225.here hx rfl (hb hby at_238) rfl rfl rfl ?_
       refine st241 _ ?_
       refine XS.dup X241.here hx rfl (hb hby at_243) rfl rfl ?_
       refine XS.iload X241.here hx rfl (hb hby at_244) rfl ?_
       refine XS.aload X241.here hx rfl (hb hby at_246) rfl rfl ?_
       refine XS.iload X241.here hx rfl (hb hby at_248) rfl ?_
       show Steps _ _ _ (T241.setTop (mkF m 250 #[iv p0, iv p1, iv p2, iv p3, iv p4, iv x5_S0, iv x10_S0, iv x15_S0, iv nn, iv c0, iv c1, iv c2, rv x225_L12, rv sgx, iv po, iv db, .val .null, .val .null, .unset, .unset, .unset] [(.int po), (.ref sgx), (.int x5_S0), (.ref b241), (.ref b241)])) _
       refine XS.aload X241.here hx rfl (hb hby at_250) rfl rfl ?_
       refine XS.aload X241.here hx rfl (hb hby at_252) rfl rfl ?_
       refine XS.iload X241.here hx rfl (hb hby at_254) rfl ?_
       exact kt)
      have f255 := (Nat.le_trans f226 E241.1)
      obtain ⟨_, T256, L256, X256, hQ256, st256⟩ := own_cI X241 hx rfl hown225 hZ225 (oG hw 27 rfl) (oG hw 28 rfl) (oG hw 26 rfl) (oG hw 29 rfl) (by decide) (rmRI0 l Z a0 hw [] b241 x5_S0 sgx po db h241 n0 f255 A241 f248 f249 f250 f251 f252 f253 mp5_S0 o241) (W := 1) (by decide) (by decide) (g := (mkF m 256 #[iv p0, iv p1, iv p2, iv p3, iv p4, iv x5_S0, iv x10_S0, iv x15_S0, iv nn, iv c0, iv c1, iv c2, rv x225_L12, rv sgx, iv po, iv db, .val .null, .val .null, .unset, .unset, .unset] [(.int db), .null, .null, (.int po), (.ref sgx), (.int x5_S0), (.ref b241), (.ref b241)])) rfl (by rw [hml]; rfl) (a := b241) (argsL := [(.int x5_S0), (.ref sgx), (.int po), .null, .null, (.int db)]) (rest := [(.ref b241)]) (lenOf pd35 rfl) rfl (own_ww rfl) (hb hby at_256) e241 rfl (by decide) (by decide)
      obtain ⟨rfl, N256q, K256, f257, f258, f259, f260, f261⟩ := hQ256
      have KK256 : Keep h0 T256.heap [] := Keep.trans K241 K256 (allS (Or.inr z241) all0)
      have CH262 : CHr Z own_EL s.vm h0 vm225 T256.heap := CH246.trans (CHr.keep K256 (sfS Yb247 sf0) CH246.1)
      have N256 := Fr.app N225 N256q
      have pre263 : own_V p e below _ T256 (mkF m 263 #[iv p0, iv p1, iv p2, iv p3, iv p4, iv x5_S0, iv x10_S0, iv x15_S0, iv nn, iv c0, iv c1, iv c2, rv x225_L12, rv sgx, iv po, iv db, .val .null, .val .null, rv b241, .unset, .unset] [(.ref b241)]) := fun t kt => pre254 t (by
       refine st256 _ ?_
       refine XS.astore X256.here hx rfl (hb hby at_259) rfl rfl rfl ?_
       refine XS.aload X256.here hx rfl (hb hby at_261) rfl rfl ?_
       exact kt)
      have f264 := (A241.keep K256)
      have f265 := ((f234.ext E241).keep K256)
      have f266 := ((f235.ext E241).keep K256 (ninS ne242 nin0))
      have f267 := ((f236.ext E241).keep K256 (ninS ne242 nin0))
      have f268 := ((f237.ext E241).keep K256 (ninS ne243 nin0))
      have f269 := (own_staKeep (f227.ext E241) K256 (nsS A241.nostat ns0))
      have f270 := (own_staKeep (f229.ext E241) K256 (nsS A241.nostat ns0))
      have f271 := (own_staKeep (f230.ext E241) K256 (nsS A241.nostat ns0))
      have f272 := ((f231.ext E241).keep K256 (ninS ne244 nin0))
      have f273 := ((f232.ext E241).keep K256 (ninS ne245 nin0))
      have f274 := (Nat.le_trans f255 K256.1)
      have f276 := (Nat.le_trans (Nat.le_trans f233 E241.1) K256.1)
      have f277 : Safe Z own_EL vm225 T256.heap b241 := (Safe.keep K256 (sfS Yb247 sf0) CH246.1 Yb247)
      obtain ⟨cq278, kq278, q278a, q278b, q278c⟩ := isOf hZ225 rfl f264
      obtain ⟨_, _, ⟨T275, L275, k275, n275⟩, -, Xw275, hSw275, gr275, ⟨Lc275, hQ275, l275, y275, z275, CHq275⟩, st275⟩ := X256.virtualBackS hx (y := own_y45) (z := own_y45) hown225 (mvT hZ225 (oG hw 48 rfl)) (mvT hZ225 (oG hw 49 rfl)) (notFace_of_selects (args := #[]) (mvT hZ225 (oG hw 51 rfl))) (mvT hZ225 (oG hw 51 rfl)) (mvT hZ225 (oG hw 50 rfl)) (by decide) (backOfSH (W := 0) (rmTo l Z a0 hw [] b241 x5_S0 sgx po db .null x10_S0 tx ktx nn vsx (own_cl nn c0 c1 c2) zC dO kO vO dT kT vT T256.heap n0 f274 f264 f257 f258 f259 f260 f261 f265 f266 f267 f268 f269 hz f270 f271 f272 f273 hO hT (Or.inl ⟨hc182_239, rfl⟩) whc (own_cln hnn) (own_clk hnn) hpo.1 hpo.2 hdb) hZ225 (oG hw 52 rfl) (oG hw 26 rfl) (by decide) (by decide) hEL CH262.1) q278a q278c (g := (mkF m 263 #[iv p0, iv p1, iv p2, iv p3, iv p4, iv x5_S0, iv x10_S0, iv x15_S0, iv nn, iv c0, iv c1, iv c2, rv x225_L12, rv sgx, iv po, iv db, .val .null, .val .null, rv b241, .unset, .unset] [(.ref b241)])) rfl (by rw [hml]; rfl) (Steps.refl _) (argsL := []) (rest := []) (lenOf pd31 rfl) rfl (by show 2 * 0 + _ ≤ _; exact Nat.le_of_eq rfl) (hb hby at_263) (fun _ _ => ⟨rfl, rfl, (by decide : 7 + 22 ≤ _), (by decide : 18 + 410 ≤ _)⟩)
      dsimp only [Pt.U, Pt.locs, Pt.cells, Pt.slots] at Xw275 hSw275 gr275 l275 y275 z275 st275 hQ275 CHq275
      subst l275 y275 z275
      obtain ⟨X275, hS275, hZ275, hown275⟩ := rebS hS225 f276 Xw275 hSw275 gr275 hZ225 hown225
      obtain ⟨sg_275, yv_275, ky_275, zl_275, ys_275, rfl, N275q, K275, sx275_0, sx275_1, px275_0, f279, f280, f281, f282, f283, f284⟩ := hQ275
      have osg_275 : n0 ≤ sg_275 := Nat.le_trans f274 sx275_0
      have zsg_275 : h0.size ≤ sg_275 := Nat.le_trans KK256.1 sx275_0
      have ne285 : sgx ≠ sg_275 := Nat.ne_of_lt (Nat.lt_of_lt_of_le f265.lt sx275_0)
      have ne286 : tx ≠ sg_275 := Nat.ne_of_lt (Nat.lt_of_lt_of_le f268.lt sx275_0)
      have ne287 : dO ≠ sg_275 := Nat.ne_of_lt (Nat.lt_of_lt_of_le f272.lt sx275_0)
      have ne288 : dT ≠ sg_275 := Nat.ne_of_lt (Nat.lt_of_lt_of_le f273.lt sx275_0)
      have ne289 : b241 ≠ sg_275 := Nat.ne_of_lt (Nat.lt_of_lt_of_le f264.lt sx275_0)
      have oyv_275 : n0 ≤ yv_275 := Nat.le_trans f274 sx275_1
      have zyv_275 : h0.size ≤ yv_275 := Nat.le_trans KK256.1 sx275_1
      have ne290 : sgx ≠ yv_275 := Nat.ne_of_lt (Nat.lt_of_lt_of_le f265.lt sx275_1)
      have ne291 : tx ≠ yv_275 := Nat.ne_of_lt (Nat.lt_of_lt_of_le f268.lt sx275_1)
      have ne292 : dO ≠ yv_275 := Nat.ne_of_lt (Nat.lt_of_lt_of_le f272.lt sx275_1)
      have ne293 : dT ≠ yv_275 := Nat.ne_of_lt (Nat.lt_of_lt_of_le f273.lt sx275_1)
      have ne294 : b241 ≠ yv_275 := Nat.ne_of_lt (Nat.lt_of_lt_of_le f264.lt sx275_1)
      have KK275 : Keep h0 T275.heap [] := Keep.trans KK256 K275 all0
      have CH295 : CHr Z own_EL s.vm h0 T275.vm T275.heap := CH262.trans CHq275
      have Yr296 : Safe Z own_EL T275.vm T275.heap b241 := CHr.safe CHq275 f264.lt f277
      have N275 := Fr.app N256 N275q
      have pre297 : own_V p e below _ T275 (mkF m 268 #[iv p0, iv p1, iv p2, iv p3, iv p4, iv x5_S0, iv x10_S0, iv x15_S0, iv nn, iv c0, iv c1, iv c2, rv x225_L12, rv sgx, iv po, iv db, .val .null, .val .null, rv b241, rv sg_275, .unset] []) := fun t kt => pre263 t (by
       refine st275.trans ?_
       refine XS.astore X275.here hx rfl (hb hby at_266) rfl rfl rfl ?_
       exact kt)
      have f298 := (Nat.le_trans f274 K275.1)
      have f299 := (own_staKeep f269 K275 ns0)
      have f300 := (own_staKeep (own_staKeep (f228.ext E241) K256 (nsS A241.nostat ns0)) K275 ns0)
      exact ⟨T275, _, (iv p0), (iv p1), (iv p2), (iv p3), (iv p4), (iv x15_S0), (rv x225_L12), (rv sgx), (.val .null), (.val .null), (rv b241), sg_275, T275.vm, T275.heap.size, sg_275, yv_275, ky_275, zl_275, ys_275, X275.more (by decide) (by decide), N275, KK275, CH295, f298, f299, f300, (Nat.le_refl _), hZ275, hown275, hS275, f279, f280, f281, f282, (own_fl f283 f284 hnn hpo.2), rfl, pre297⟩
    · obtain ⟨T301, h301, X301, e301, E301, A301, D301, U301, st301⟩ := newO X225 hx hZ225 hown225 (oG hw 1 rfl) (oG hw 2 rfl) (oG hw 3 rfl) rfl (g := (mkF m 185 #[iv p0, iv p1, iv p2, iv p3, iv p4, iv x5_S0, iv x10_S0, iv x15_S0, iv nn, iv c0, iv c1, iv c2, rv x225_L12, rv sgx, iv po, iv db, .unset, .unset, .unset, .unset, .unset] [])) rfl (hb hby at_185) (by decide) (by decide)
      obtain ⟨b301, g301⟩ : ∃ z, z = T225.heap.size := ⟨_, rfl⟩
      rw [← g301] at A301 D301 U301 st301
      have ne302 : sgx ≠ b301 := Nat.ne_of_lt (Nat.lt_of_lt_of_le f234.lt (Nat.le_of_eq g301.symm))
      have ne303 : tx ≠ b301 := Nat.ne_of_lt (Nat.lt_of_lt_of_le f237.lt (Nat.le_of_eq g301.symm))
      have ne304 : dO ≠ b301 := Nat.ne_of_lt (Nat.lt_of_lt_of_le f231.lt (Nat.le_of_eq g301.symm))
      have ne305 : dT ≠ b301 := Nat.ne_of_lt (Nat.lt_of_lt_of_le f232.lt (Nat.le_of_eq g301.symm))
      have o301 : n0 ≤ b301 := Nat.le_trans f226 (Nat.le_of_eq g301.symm)
      have z301 : h0.size ≤ b301 := Nat.le_trans K225.1 (Nat.le_of_eq g301.symm)
      have CH306 : CHr Z own_EL s.vm h0 vm225 h301 := CH225.trans (CHr.ext E301 CH225.1)
      have Yb307 : Safe Z own_EL vm225 h301 b301 := Safe.ext E301 CH225.1 (Safe.new (Nat.le_of_eq g301.symm))
      have K301 : Keep h0 h301 [] := K225.ext E301
      have f308 : Fld Z h301 b301 "java/lang/String" "value" "[B" .null := D301 (Or.inr (oG hw 16 rfl)) (ty := (.array .byte)) (by decide)
      have f309 : Fld Z h301 b301 "java/lang/String" "coder" "B" (.int (0 : Int32)) := D301 (Or.inr (oG hw 17 rfl)) (ty := .byte) (by decide)
      have f310 := (Nat.le_trans f226 E301.1)
      obtain ⟨T311, h311, k311, X311, e311, E311, A311, st311⟩ := newP X301 hx hZ225 (oG hw 0 rfl) e301 (g := (mkF m 190 #[iv p0, iv p1, iv p2, iv p3, iv p4, iv x5_S0, iv x10_S0, iv x15_S0, iv nn, iv c0, iv c1, iv c2, rv x225_L12, rv sgx, iv po, iv db, .unset, .unset, .unset, .unset, .unset] [(.int (1 : Int32)), (.ref b301), (.ref b301)])) rfl (hb hby at_190) rfl (by decide) (cap := 1) (by decide) (by decide) (by decide) (by decide)
      obtain ⟨b311, g311⟩ : ∃ z, z = h301.size := ⟨_, rfl⟩
      rw [← g311] at A311 st311
      have f312 := (f234.ext E301)
      have ne313 : sgx ≠ b311 := Nat.ne_of_lt (Nat.lt_of_lt_of_le f312.lt (Nat.le_of_eq g311.symm))
      have f314 := (f237.ext E301)
      have ne315 : tx ≠ b311 := Nat.ne_of_lt (Nat.lt_of_lt_of_le f314.lt (Nat.le_of_eq g311.symm))
      have f316 := (f231.ext E301)
      have ne317 : dO ≠ b311 := Nat.ne_of_lt (Nat.lt_of_lt_of_le f316.lt (Nat.le_of_eq g311.symm))
      have f318 := (f232.ext E301)
      have ne319 : dT ≠ b311 := Nat.ne_of_lt (Nat.lt_of_lt_of_le f318.lt (Nat.le_of_eq g311.symm))
      have ne320 : b301 ≠ b311 := Nat.ne_of_lt (Nat.lt_of_lt_of_le A301.lt (Nat.le_of_eq g311.symm))
      have o311 : n0 ≤ b311 := Nat.le_trans f310 (Nat.le_of_eq g311.symm)
      have z311 : h0.size ≤ b311 := Nat.le_trans K301.1 (Nat.le_of_eq g311.symm)
      have CH321 : CHr Z own_EL s.vm h0 vm225 h311 := CH306.trans (CHr.ext E311 CH306.1)
      have Yb322 : Safe Z own_EL vm225 h311 b311 := Safe.ext E311 CH306.1 (Safe.new (Nat.le_of_eq g311.symm))
      have K311 : Keep h0 h311 [] := K301.ext E311
      have V311 : Arv Z h311 b311 k311 .char (1 : Int32) [(.int (0 : Int32))] (.int (0 : Int32)) := (Arv.new A311 (by decide)).pad (pad_rep [] (.int (0 : Int32)) 1)
      have pre323 : own_V p e below _ T311 (mkF m 201 #[iv p0, iv p1, iv p2, iv p3, iv p4, iv x5_S0, iv x10_S0, iv x15_S0, iv nn, iv c0, iv c1, iv c2, rv x225_L12, rv sgx, iv po, iv db, .unset, .unset, .unset, .unset, .unset] [(.int ((p4 &&& (255 : Int32)).toUInt32.toUInt16.toUInt32.toInt32)), (.int (0 : Int32)), (.ref b311), (.ref b311), (.ref b301), (.ref b301)]) := fun t kt => pre240 t (by
       refine XS.ifNo X225.here hx rfl (hb hby at_182) rfl ((if0 _ _).trans (feq hc182_239).1) ?_
       refine st301 _ ?_
       refine XS.dup X301.here hx rfl (hb hby at_188) rfl rfl ?_
       refine XS.iconst X301.here hx rfl (hb hby at_189) ?_
       refine st311 _ ?_
       refine XS.dup X311.here hx rfl (hb hby at_192) rfl rfl ?_
       refine XS.iconst X311.here hx rfl (hb hby at_193) ?_
       refine XS.iload X311.here hx rfl (hb hby at_194) rfl ?_
       refine XS.sipush X311.here hx rfl (hb hby at_196) ?_
       refine XS.iand X311.here hx rfl (hb hby at_199) rfl ?_
       refine XS.i2c X311.here hx rfl (hb hby at_200) rfl ?_
       exact kt)
      obtain ⟨c3, e_c3, hc3⟩ : ∃ c_, ((p4 &&& (255 : Int32)).toUInt32.toUInt16.toUInt32.toInt32) = c_ ∧ (¬ c_ < 0 ∧ ¬ (255 : Int32) < c_) := ⟨_, rfl, own_c8 _⟩
      rw [e_c3] at pre323
      obtain ⟨cl324, Ar324, qq324, S324, N324_, H324, G324⟩ := id V311
      have hin324 : ¬ ((0 : Int32) < 0 ∨ cl324.slots.size ≤ ((0 : Int32)).toNatClampNeg) := inb_of S324 ⟨by decide, by decide⟩
      obtain ⟨T325, h325, X325, e325, W325, st325⟩ := stC X311 hx hZ225 e311 Ar324 (j := (0 : Int32)) hin324 (g := (mkF m 201 #[iv p0, iv p1, iv p2, iv p3, iv p4, iv x5_S0, iv x10_S0, iv x15_S0, iv nn, iv c0, iv c1, iv c2, rv x225_L12, rv sgx, iv po, iv db, .unset, .unset, .unset, .unset, .unset] [(.int c3), (.int (0 : Int32)), (.ref b311), (.ref b311), (.ref b301), (.ref b301)])) rfl rfl (hb hby at_201)
      have CH326 : CHr Z own_EL s.vm h0 vm225 h325 := CH321.trans (CHr.wr W325 Yb322 CH321.1)
      have V325 : Arv Z h325 b311 k311 .char (1 : Int32) [(.int c3)] (.int (0 : Int32)) := by have q_ := Arv.set Ar324 qq324 S324 N324_ H324 G324 (fits_nar_char _) W325 0 rfl (Nat.le_of_ble_eq_true rfl); rw [own_nc8 hc3] at q_; exact q_
      have N327 := Fr.snoc X325 N225 o311
      have K328 : Keep h0 h325 [] := K311.wr W325 (Or.inr z311)
      have pre329 : own_V p e below _ T325 (mkF m 202 #[iv p0, iv p1, iv p2, iv p3, iv p4, iv x5_S0, iv x10_S0, iv x15_S0, iv nn, iv c0, iv c1, iv c2, rv x225_L12, rv sgx, iv po, iv db, .unset, .unset, .unset, .unset, .unset] [(.ref b311), (.ref b301), (.ref b301)]) := fun t kt => pre323 t (by
       refine st325 _ ?_
       exact kt)
      have f330 := ((A301.ext E311).wr W325)
      have f331 := ((f308.ext E311).other W325 (Or.inl ne320))
      have f332 := ((f309.ext E311).other W325 (Or.inl ne320))
      have f333 := (((f227.ext E301).ext E311).wr W325)
      have f334 := (Nat.le_trans (Nat.le_trans f310 E311.1) (Keep.of_wr W325).1)
      obtain ⟨_, T335, L335, X335, hQ335, st335⟩ := own_cI X325 hx rfl hown225 hZ225 (oG hw 4 rfl) (oG hw 5 rfl) (oG hw 3 rfl) (oG hw 6 rfl) (by decide) (rmI1_1 l Z a0 hw [] b301 b311 k311 c3 zC h325 n0 f334 f330 f331 f332 V325 ne320 hc3 f333 hz o301) (W := 1) (by decide) (by decide) (g := (mkF m 202 #[iv p0, iv p1, iv p2, iv p3, iv p4, iv x5_S0, iv x10_S0, iv x15_S0, iv nn, iv c0, iv c1, iv c2, rv x225_L12, rv sgx, iv po, iv db, .unset, .unset, .unset, .unset, .unset] [(.ref b311), (.ref b301), (.ref b301)])) rfl (by rw [hml]; rfl) (a := b301) (argsL := [(.ref b311)]) (rest := [(.ref b301)]) (lenOf pd34 rfl) rfl (own_ww rfl) (hb hby at_202) e325 rfl (by decide) (by decide)
      have f336 := ((f312.ext E311).wr W325)
      have f337 := ((f314.ext E311).other W325 ne315)
      have f338 := ((f316.ext E311).other W325 ne317)
      have f339 := ((f318.ext E311).other W325 ne319)
      have f340 : Safe Z own_EL vm225 h325 b301 := (Safe.wr W325 Yb322 CH321.1 (Safe.ext E311 CH306.1 Yb307))
      obtain ⟨t_335, kt_335, rfl, N335q, K335, sx335_0, f341, f342, f343, f344, f345⟩ := hQ335
      have ot_335 : n0 ≤ t_335 := Nat.le_trans f334 sx335_0
      have zt_335 : h0.size ≤ t_335 := Nat.le_trans K328.1 sx335_0
      have ne346 : sgx ≠ t_335 := Nat.ne_of_lt (Nat.lt_of_lt_of_le f336.lt sx335_0)
      have ne347 : tx ≠ t_335 := Nat.ne_of_lt (Nat.lt_of_lt_of_le f337.lt sx335_0)
      have ne348 : dO ≠ t_335 := Nat.ne_of_lt (Nat.lt_of_lt_of_le f338.lt sx335_0)
      have ne349 : dT ≠ t_335 := Nat.ne_of_lt (Nat.lt_of_lt_of_le f339.lt sx335_0)
      have ne350 : b301 ≠ t_335 := Nat.ne_of_lt (Nat.lt_of_lt_of_le f330.lt sx335_0)
      have ne351 : b311 ≠ t_335 := Nat.ne_of_lt (Nat.lt_of_lt_of_le V325.lt sx335_0)
      have Yn352 : Safe Z own_EL vm225 h325 t_335 := Safe.new sx335_0
      have KK335 : Keep h0 T335.heap [] := Keep.trans K328 K335 (allS (Or.inr z301) all0)
      have CH353 : CHr Z own_EL s.vm h0 vm225 T335.heap := CH326.trans (CHr.keep K335 (sfS f340 sf0) CH326.1)
      have N335 := Fr.app N327 N335q
      have pre355 : own_V p e below _ T335 (mkF m 218 #[iv p0, iv p1, iv p2, iv p3, iv p4, iv x5_S0, iv x10_S0, iv x15_S0, iv nn, iv c0, iv c1, iv c2, rv x225_L12, rv sgx, iv po, iv db, rv b301, .unset, .unset, .unset, .unset] [(.int x15_S0)]) := fun t kt => pre329 t (by
       refine st335 _ ?_
       refine XS.goto X335.here hx rfl (pc0 := 205) (pc' := 209) rfl (hb hby at_205) (by decide) (by decide) ?_
       refine XS.astore X335.here hx rfl (hb hby at_209) rfl rfl rfl ?_
       refine XS.iload X335.here hx rfl (hb hby at_211) rfl ?_
       refine XS.ifNo X335.here hx rfl (hb hby at_213) rfl ((if0 _ _).trans (feq hc182_239).1) ?_
       refine XS.iload X335.here hx rfl (hb hby at_216) rfl ?_
       exact kt)
      by_cases hc218_354 : x15_S0 = (0 : Int32)
      · have f356 := (Nat.le_trans f334 K335.1)
        obtain ⟨T357, h357, X357, e357, E357, A357, D357, U357, st357⟩ := newO X335 hx hZ225 hown225 (oG hw 24 rfl) (oG hw 25 rfl) (oG hw 26 rfl) rfl (g := (mkF m 240 #[iv p0, iv p1, iv p2, iv p3, iv p4, iv x5_S0, iv x10_S0, iv x15_S0, iv nn, iv c0, iv c1, iv c2, rv x225_L12, rv sgx, iv po, iv db, rv b301, .val .null, .unset, .unset, .unset] [])) rfl (hb hby at_240) (by decide) (by decide)
        obtain ⟨b357, g357⟩ : ∃ z, z = T335.heap.size := ⟨_, rfl⟩
        rw [← g357] at A357 D357 U357 st357
        have f358 := (f336.keep K335)
        have ne359 : sgx ≠ b357 := Nat.ne_of_lt (Nat.lt_of_lt_of_le f358.lt (Nat.le_of_eq g357.symm))
        have f360 := (f337.keep K335 (ninS ne303 nin0))
        have ne361 : tx ≠ b357 := Nat.ne_of_lt (Nat.lt_of_lt_of_le f360.lt (Nat.le_of_eq g357.symm))
        have f362 := (f338.keep K335 (ninS ne304 nin0))
        have ne363 : dO ≠ b357 := Nat.ne_of_lt (Nat.lt_of_lt_of_le f362.lt (Nat.le_of_eq g357.symm))
        have f364 := (f339.keep K335 (ninS ne305 nin0))
        have ne365 : dT ≠ b357 := Nat.ne_of_lt (Nat.lt_of_lt_of_le f364.lt (Nat.le_of_eq g357.symm))
        have ne366 : b301 ≠ b357 := Nat.ne_of_lt (Nat.lt_of_lt_of_le f341.lt (Nat.le_of_eq g357.symm))
        have f367 := (V325.keep K335 (ninS (Ne.symm ne320) nin0))
        have ne368 : b311 ≠ b357 := Nat.ne_of_lt (Nat.lt_of_lt_of_le f367.lt (Nat.le_of_eq g357.symm))
        have ne369 : t_335 ≠ b357 := Nat.ne_of_lt (Nat.lt_of_lt_of_le f344.lt (Nat.le_of_eq g357.symm))
        have o357 : n0 ≤ b357 := Nat.le_trans f356 (Nat.le_of_eq g357.symm)
        have z357 : h0.size ≤ b357 := Nat.le_trans KK335.1 (Nat.le_of_eq g357.symm)
        have CH370 : CHr Z own_EL s.vm h0 vm225 h357 := CH353.trans (CHr.ext E357 CH353.1)
        have Yb371 : Safe Z own_EL vm225 h357 b357 := Safe.ext E357 CH353.1 (Safe.new (Nat.le_of_eq g357.symm))
        have K357 : Keep h0 h357 [] := KK335.ext E357
        have f372 : Fld Z h357 b357 "com/example/fastpath/fastpath/settings/RedisServer" "tls" "Z" (.int (0 : Int32)) := D357 (Or.inr (oG hw 37 rfl)) (ty := .boolean) (by decide)
        have f373 : Fld Z h357 b357 "com/example/fastpath/fastpath/settings/RedisServer" "host" "Ljava/lang/String;" .null := D357 (Or.inr (oG hw 39 rfl)) (ty := (.object "java/lang/String")) (by decide)
        have f374 : Fld Z h357 b357 "com/example/fastpath/fastpath/settings/RedisServer" "port" "I" (.int (0 : Int32)) := D357 (Or.inr (oG hw 41 rfl)) (ty := .int) (by decide)
        have f375 : Fld Z h357 b357 "com/example/fastpath/fastpath/settings/RedisServer" "user" "Ljava/lang/String;" .null := D357 (Or.inr (oG hw 43 rfl)) (ty := (.object "java/lang/String")) (by decide)
        have f376 : Fld Z h357 b357 "com/example/fastpath/fastpath/settings/RedisServer" "password" "Ljava/lang/String;" .null := D357 (Or.inr (oG hw 45 rfl)) (ty := (.object "java/lang/String")) (by decide)
        have f377 : Fld Z h357 b357 "com/example/fastpath/fastpath/settings/RedisServer" "database" "I" (.int (0 : Int32)) := D357 (Or.inr (oG hw 47 rfl)) (ty := .int) (by decide)
        have pre378 : own_V p e below _ T357 (mkF m 256 #[iv p0, iv p1, iv p2, iv p3, iv p4, iv x5_S0, iv x10_S0, iv x15_S0, iv nn, iv c0, iv c1, iv c2, rv x225_L12, rv sgx, iv po, iv db, rv b301, .val .null, .unset, .unset, .unset] [(.int db), (.ref b301), .null, (.int po), (.ref sgx), (.int x5_S0), (.ref b357), (.ref b357)]) := fun t kt => pre355 t (by
         refine XS.ifYes X335.here hx rfl (pc0 := 218) (pc' := 237) rfl (hb hby at_218) rfl ((if0 _ _).trans (teq hc218_354).1) (by decide) (by decide) ?_
         show Steps _ _ _ (T335.setTop (mkF m 237 #[iv p0, iv p1, iv p2, iv p3, iv p4, iv x5_S0, iv x10_S0, iv x15_S0, iv nn, iv c0, iv c1, iv c2, rv x225_L12, rv sgx, iv po, iv db, rv b301, .unset, .unset, .unset, .unset] [])) _
         refine XS.aconstNull X335.here hx rfl (hb hby at_237) ?_
         refine XS.astore X335.here hx rfl (hb hby at_238) rfl rfl rfl ?_
         refine st357 _ ?_
         refine XS.dup X357.here hx rfl (hb hby at_243) rfl rfl ?_
         refine XS.iload X357.here hx rfl (hb hby at_244) rfl ?_
         refine XS.aload X357.here hx rfl (hb hby at_246) rfl rfl ?_
         refine XS.iload X357.here hx rfl (hb hby at_248) rfl ?_
         refine XS.aload X357.here hx rfl (hb hby at_250) rfl rfl ?_
         refine XS.aload X357.here hx rfl (hb hby at_252) rfl rfl ?_
         refine XS.iload X357.here hx rfl (hb hby at_254) rfl ?_
         exact kt)
        have f379 := (Nat.le_trans f356 E357.1)
        obtain ⟨_, T380, L380, X380, hQ380, st380⟩ := own_cI X357 hx rfl hown225 hZ225 (oG hw 27 rfl) (oG hw 28 rfl) (oG hw 26 rfl) (oG hw 29 rfl) (by decide) (rmRI1 l Z a0 hw [] b357 x5_S0 sgx po b301 db h357 n0 f379 A357 f372 f373 f374 f375 f376 f377 mp5_S0 o357) (W := 1) (by decide) (by decide) (g := (mkF m 256 #[iv p0, iv p1, iv p2, iv p3, iv p4, iv x5_S0, iv x10_S0, iv x15_S0, iv nn, iv c0, iv c1, iv c2, rv x225_L12, rv sgx, iv po, iv db, rv b301, .val .null, .unset, .unset, .unset] [(.int db), (.ref b301), .null, (.int po), (.ref sgx), (.int x5_S0), (.ref b357), (.ref b357)])) rfl (by rw [hml]; rfl) (a := b357) (argsL := [(.int x5_S0), (.ref sgx), (.int po), .null, (.ref b301), (.int db)]) (rest := [(.ref b357)]) (lenOf pd35 rfl) rfl (own_ww rfl) (hb hby at_256) e357 rfl (by decide) (by decide)
        obtain ⟨rfl, N380q, K380, f381, f382, f383, f384, f385⟩ := hQ380
        have KK380 : Keep h0 T380.heap [] := Keep.trans K357 K380 (allS (Or.inr z357) all0)
        have CH386 : CHr Z own_EL s.vm h0 vm225 T380.heap := CH370.trans (CHr.keep K380 (sfS Yb371 sf0) CH370.1)
        have N380 := Fr.app N335 N380q
        have pre387 : own_V p e below _ T380 (mkF m 263 #[iv p0, iv p1, iv p2, iv p3, iv p4, iv x5_S0, iv x10_S0, iv x15_S0, iv nn, iv c0, iv c1, iv c2, rv x225_L12, rv sgx, iv po, iv db, rv b301, .val .null, rv b357, .unset, .unset] [(.ref b357)]) := fun t kt => pre378 t (by
         refine st380 _ ?_
         refine XS.astore X380.here hx rfl (hb hby at_259) rfl rfl rfl ?_
         refine XS.aload X380.here hx rfl (hb hby at_261) rfl rfl ?_
         exact kt)
        have f388 := (A357.keep K380)
        have f389 := ((f358.ext E357).keep K380)
        have f390 := ((((((f235.ext E301).ext E311).other W325 (Or.inl ne313)).keep K335 (ninS ne302 nin0)).ext E357).keep K380 (ninS ne359 nin0))
        have f391 := ((((((f236.ext E301).ext E311).other W325 (Or.inl ne313)).keep K335 (ninS ne302 nin0)).ext E357).keep K380 (ninS ne359 nin0))
        have f392 := ((f360.ext E357).keep K380 (ninS ne361 nin0))
        have f393 := (own_staKeep ((own_staKeep f333 K335 (nsS f330.nostat ns0)).ext E357) K380 (nsS A357.nostat ns0))
        have f394 := (own_staKeep ((own_staKeep (((f229.ext E301).ext E311).wr W325) K335 (nsS f330.nostat ns0)).ext E357) K380 (nsS A357.nostat ns0))
        have f395 := (own_staKeep ((own_staKeep (((f230.ext E301).ext E311).wr W325) K335 (nsS f330.nostat ns0)).ext E357) K380 (nsS A357.nostat ns0))
        have f396 := ((f362.ext E357).keep K380 (ninS ne363 nin0))
        have f397 := ((f364.ext E357).keep K380 (ninS ne365 nin0))
        have f398 := (Nat.le_trans f379 K380.1)
        have f400 := (Nat.le_trans (Nat.le_trans (Nat.le_trans (Nat.le_trans (Nat.le_trans (Nat.le_trans f233 E301.1) E311.1) (Keep.of_wr W325).1) K335.1) E357.1) K380.1)
        have f401 : Safe Z own_EL vm225 T380.heap b301 := (Safe.keep K380 (sfS Yb371 sf0) CH370.1 (Safe.ext E357 CH353.1 (Safe.keep K335 (sfS f340 sf0) CH326.1 f340)))
        have f402 := ((f341.ext E357).keep K380)
        have f403 : Safe Z own_EL vm225 T380.heap b311 := (Safe.keep K380 (sfS Yb371 sf0) CH370.1 (Safe.ext E357 CH353.1 (Safe.keep K335 (sfS f340 sf0) CH326.1 (Safe.wr W325 Yb322 CH321.1 Yb322))))
        have f404 := ((f367.ext E357).keep K380 (ninS ne368 nin0))
        have f405 : Safe Z own_EL vm225 T380.heap t_335 := (Safe.keep K380 (sfS Yb371 sf0) CH370.1 (Safe.ext E357 CH353.1 (Safe.keep K335 (sfS f340 sf0) CH326.1 Yn352)))
        have f406 := ((f344.ext E357).keep K380)
        have f407 : Safe Z own_EL vm225 T380.heap b357 := (Safe.keep K380 (sfS Yb371 sf0) CH370.1 Yb371)
        obtain ⟨cq408, kq408, q408a, q408b, q408c⟩ := isOf hZ225 rfl f388
        obtain ⟨_, _, ⟨T399, L399, k399, n399⟩, -, Xw399, hSw399, gr399, ⟨Lc399, hQ399, l399, y399, z399, CHq399⟩, st399⟩ := X380.virtualBackS hx (y := own_y45) (z := own_y45) hown225 (mvT hZ225 (oG hw 48 rfl)) (mvT hZ225 (oG hw 49 rfl)) (notFace_of_selects (args := #[]) (mvT hZ225 (oG hw 51 rfl))) (mvT hZ225 (oG hw 51 rfl)) (mvT hZ225 (oG hw 50 rfl)) (by decide) (backOfSH (W := 0) (rmTo l Z a0 hw [] b357 x5_S0 sgx po db (.ref b301) x10_S0 tx ktx nn vsx (own_cl nn c0 c1 c2) zC dO kO vO dT kT vT T380.heap n0 f398 f388 f381 f382 f383 f384 f385 f389 f390 f391 f392 f393 hz f394 f395 f396 f397 hO hT (Or.inr ⟨hc182_239, _, rfl⟩) whc (own_cln hnn) (own_clk hnn) hpo.1 hpo.2 hdb) hZ225 (oG hw 52 rfl) (oG hw 26 rfl) (by decide) (by decide) hEL CH386.1) q408a q408c (g := (mkF m 263 #[iv p0, iv p1, iv p2, iv p3, iv p4, iv x5_S0, iv x10_S0, iv x15_S0, iv nn, iv c0, iv c1, iv c2, rv x225_L12, rv sgx, iv po, iv db, rv b301, .val .null, rv b357, .unset, .unset] [(.ref b357)])) rfl (by rw [hml]; rfl) (Steps.refl _) (argsL := []) (rest := []) (lenOf pd31 rfl) rfl (by show 2 * 0 + _ ≤ _; exact Nat.le_of_eq rfl) (hb hby at_263) (fun _ _ => ⟨rfl, rfl, (by decide : 10 + 22 ≤ _), (by decide : 24 + 410 ≤ _)⟩)
        dsimp only [Pt.U, Pt.locs, Pt.cells, Pt.slots] at Xw399 hSw399 gr399 l399 y399 z399 st399 hQ399 CHq399
        subst l399 y399 z399
        obtain ⟨X399, hS399, hZ399, hown399⟩ := rebS hS225 f400 Xw399 hSw399 gr399 hZ225 hown225
        obtain ⟨sg_399, yv_399, ky_399, zl_399, ys_399, rfl, N399q, K399, sx399_0, sx399_1, px399_0, f409, f410, f411, f412, f413, f414⟩ := hQ399
        have osg_399 : n0 ≤ sg_399 := Nat.le_trans f398 sx399_0
        have zsg_399 : h0.size ≤ sg_399 := Nat.le_trans KK380.1 sx399_0
        have ne415 : sgx ≠ sg_399 := Nat.ne_of_lt (Nat.lt_of_lt_of_le f389.lt sx399_0)
        have ne416 : tx ≠ sg_399 := Nat.ne_of_lt (Nat.lt_of_lt_of_le f392.lt sx399_0)
        have ne417 : dO ≠ sg_399 := Nat.ne_of_lt (Nat.lt_of_lt_of_le f396.lt sx399_0)
        have ne418 : dT ≠ sg_399 := Nat.ne_of_lt (Nat.lt_of_lt_of_le f397.lt sx399_0)
        have ne419 : b301 ≠ sg_399 := Nat.ne_of_lt (Nat.lt_of_lt_of_le f402.lt sx399_0)
        have ne420 : b311 ≠ sg_399 := Nat.ne_of_lt (Nat.lt_of_lt_of_le f404.lt sx399_0)
        have ne421 : t_335 ≠ sg_399 := Nat.ne_of_lt (Nat.lt_of_lt_of_le f406.lt sx399_0)
        have ne422 : b357 ≠ sg_399 := Nat.ne_of_lt (Nat.lt_of_lt_of_le f388.lt sx399_0)
        have oyv_399 : n0 ≤ yv_399 := Nat.le_trans f398 sx399_1
        have zyv_399 : h0.size ≤ yv_399 := Nat.le_trans KK380.1 sx399_1
        have ne423 : sgx ≠ yv_399 := Nat.ne_of_lt (Nat.lt_of_lt_of_le f389.lt sx399_1)
        have ne424 : tx ≠ yv_399 := Nat.ne_of_lt (Nat.lt_of_lt_of_le f392.lt sx399_1)
        have ne425 : dO ≠ yv_399 := Nat.ne_of_lt (Nat.lt_of_lt_of_le f396.lt sx399_1)
        have ne426 : dT ≠ yv_399 := Nat.ne_of_lt (Nat.lt_of_lt_of_le f397.lt sx399_1)
        have ne427 : b301 ≠ yv_399 := Nat.ne_of_lt (Nat.lt_of_lt_of_le f402.lt sx399_1)
        have ne428 : b311 ≠ yv_399 := Nat.ne_of_lt (Nat.lt_of_lt_of_le f404.lt sx399_1)
        have ne429 : t_335 ≠ yv_399 := Nat.ne_of_lt (Nat.lt_of_lt_of_le f406.lt sx399_1)
        have ne430 : b357 ≠ yv_399 := Nat.ne_of_lt (Nat.lt_of_lt_of_le f388.lt sx399_1)
        have KK399 : Keep h0 T399.heap [] := Keep.trans KK380 K399 all0
        have CH431 : CHr Z own_EL s.vm h0 T399.vm T399.heap := CH386.trans CHq399
        have Yr432 : Safe Z own_EL T399.vm T399.heap b301 := CHr.safe CHq399 f402.lt f401
        have Yr433 : Safe Z own_EL T399.vm T399.heap b311 := CHr.safe CHq399 f404.lt f403
        have Yr434 : Safe Z own_EL T399.vm T399.heap t_335 := CHr.safe CHq399 f406.lt f405
        have Yr435 : Safe Z own_EL T399.vm T399.heap b357 := CHr.safe CHq399 f388.lt f407
        have N399 := Fr.app N380 N399q
        have pre436 : own_V p e below _ T399 (mkF m 268 #[iv p0, iv p1, iv p2, iv p3, iv p4, iv x5_S0, iv x10_S0, iv x15_S0, iv nn, iv c0, iv c1, iv c2, rv x225_L12, rv sgx, iv po, iv db, rv b301, .val .null, rv b357, rv sg_399, .unset] []) := fun t kt => pre387 t (by
         refine st399.trans ?_
         refine XS.astore X399.here hx rfl (hb hby at_266) rfl rfl rfl ?_
         exact kt)
        have f437 := (Nat.le_trans f398 K399.1)
        have f438 := (own_staKeep f393 K399 ns0)
        have f439 := (own_staKeep (own_staKeep ((own_staKeep (((f228.ext E301).ext E311).wr W325) K335 (nsS f330.nostat ns0)).ext E357) K380 (nsS A357.nostat ns0)) K399 ns0)
        exact ⟨T399, _, (iv p0), (iv p1), (iv p2), (iv p3), (iv p4), (iv x15_S0), (rv x225_L12), (rv sgx), (rv b301), (.val .null), (rv b357), sg_399, T399.vm, T399.heap.size, sg_399, yv_399, ky_399, zl_399, ys_399, X399.more (by decide) (by decide), N399, KK399, CH431, f437, f438, f439, (Nat.le_refl _), hZ399, hown399, hS399, f409, f410, f411, f412, (own_fl f413 f414 hnn hpo.2), rfl, pre436⟩
      · have pre440 : own_V p e below _ T335 (mkF m 231 #[iv p0, iv p1, iv p2, iv p3, iv p4, iv x5_S0, iv x10_S0, iv x15_S0, iv nn, iv c0, iv c1, iv c2, rv x225_L12, rv sgx, iv po, iv db, rv b301, .unset, .unset, .unset, .unset] [(.int ((((p4.toUInt32 >>> ((8 : Int32) &&& 31).toUInt32).toInt32) &&& (255 : Int32)).toUInt32.toUInt16.toUInt32.toInt32))]) := fun t kt => pre355 t (by
         refine XS.ifNo X335.here hx rfl (hb hby at_218) rfl ((if0 _ _).trans (feq hc218_354).1) ?_
         refine XS.iload X335.here hx rfl (hb hby at_221) rfl ?_
         refine XS.bipush X335.here hx rfl (hb hby at_223) ?_
         refine XS.iushr X335.here hx rfl (hb hby at_225) rfl ?_
         refine XS.sipush X335.here hx rfl (hb hby at_226) ?_
         refine XS.iand X335.here hx rfl (hb hby at_229) rfl ?_
         refine XS.i2c X335.here hx rfl (hb hby at_230) rfl ?_
         exact kt)
        obtain ⟨c4, e_c4, hc4⟩ : ∃ c_, ((((p4.toUInt32 >>> ((8 : Int32) &&& 31).toUInt32).toInt32) &&& (255 : Int32)).toUInt32.toUInt16.toUInt32.toInt32) = c_ ∧ (¬ c_ < 0 ∧ ¬ (255 : Int32) < c_) := ⟨_, rfl, own_c8 _⟩
        rw [e_c4] at pre440
        have f441 := (own_staKeep f333 K335 (nsS f330.nostat ns0))
        have f442 := (Nat.le_trans f334 K335.1)
        obtain ⟨_, T443, L443, X443, hQ443, st443⟩ := own_cS X335 hx hown225 hZ225 (oG hw 266 rfl) (oG hw 267 rfl) (oG hw 3 rfl) (oG hw 268 rfl) (by decide) (rmVO l Z a0 hw [] c4 zC T335.heap n0 f442 f441 hz hc4) (W := 0) (by decide) (by decide) (g := (mkF m 231 #[iv p0, iv p1, iv p2, iv p3, iv p4, iv x5_S0, iv x10_S0, iv x15_S0, iv nn, iv c0, iv c1, iv c2, rv x225_L12, rv sgx, iv po, iv db, rv b301, .unset, .unset, .unset, .unset] [(.int c4)])) rfl (by rw [hml]; rfl) (argsL := [(.int c4)]) (rest := []) (lenOf pd36 rfl) rfl (own_ww rfl) (hb hby at_231) rfl rfl (by decide) (by decide)
        have f444 := (f336.keep K335)
        have f445 := (f337.keep K335 (ninS ne303 nin0))
        have f446 := (f338.keep K335 (ninS ne304 nin0))
        have f447 := (f339.keep K335 (ninS ne305 nin0))
        have f448 := (V325.keep K335 (ninS (Ne.symm ne320) nin0))
        obtain ⟨sg_443, rfl, N443q, K443, sx443_0⟩ := hQ443
        have osg_443 : n0 ≤ sg_443 := Nat.le_trans f442 sx443_0
        have zsg_443 : h0.size ≤ sg_443 := Nat.le_trans KK335.1 sx443_0
        have ne449 : sgx ≠ sg_443 := Nat.ne_of_lt (Nat.lt_of_lt_of_le f444.lt sx443_0)
        have ne450 : tx ≠ sg_443 := Nat.ne_of_lt (Nat.lt_of_lt_of_le f445.lt sx443_0)
        have ne451 : dO ≠ sg_443 := Nat.ne_of_lt (Nat.lt_of_lt_of_le f446.lt sx443_0)
        have ne452 : dT ≠ sg_443 := Nat.ne_of_lt (Nat.lt_of_lt_of_le f447.lt sx443_0)
        have ne453 : b301 ≠ sg_443 := Nat.ne_of_lt (Nat.lt_of_lt_of_le f341.lt sx443_0)
        have ne454 : b311 ≠ sg_443 := Nat.ne_of_lt (Nat.lt_of_lt_of_le f448.lt sx443_0)
        have ne455 : t_335 ≠ sg_443 := Nat.ne_of_lt (Nat.lt_of_lt_of_le f344.lt sx443_0)
        have Yn456 : Safe Z own_EL vm225 T335.heap sg_443 := Safe.new sx443_0
        have KK443 : Keep h0 T443.heap [] := Keep.trans KK335 K443 all0
        have CH457 : CHr Z own_EL s.vm h0 vm225 T443.heap := CH353.trans (CHr.keep K443 sf0 CH353.1)
        have N443 := Fr.app N335 N443q
        have f458 := (Nat.le_trans f442 K443.1)
        obtain ⟨T459, h459, X459, e459, E459, A459, D459, U459, st459⟩ := newO X443 hx hZ225 hown225 (oG hw 24 rfl) (oG hw 25 rfl) (oG hw 26 rfl) rfl (g := (mkF m 240 #[iv p0, iv p1, iv p2, iv p3, iv p4, iv x5_S0, iv x10_S0, iv x15_S0, iv nn, iv c0, iv c1, iv c2, rv x225_L12, rv sgx, iv po, iv db, rv b301, rv sg_443, .unset, .unset, .unset] [])) rfl (hb hby at_240) (by decide) (by decide)
        obtain ⟨b459, g459⟩ : ∃ z, z = T443.heap.size := ⟨_, rfl⟩
        rw [← g459] at A459 D459 U459 st459
        have f460 := (f444.keep K443)
        have ne461 : sgx ≠ b459 := Nat.ne_of_lt (Nat.lt_of_lt_of_le f460.lt (Nat.le_of_eq g459.symm))
        have f462 := (f445.keep K443 nin0)
        have ne463 : tx ≠ b459 := Nat.ne_of_lt (Nat.lt_of_lt_of_le f462.lt (Nat.le_of_eq g459.symm))
        have f464 := (f446.keep K443 nin0)
        have ne465 : dO ≠ b459 := Nat.ne_of_lt (Nat.lt_of_lt_of_le f464.lt (Nat.le_of_eq g459.symm))
        have f466 := (f447.keep K443 nin0)
        have ne467 : dT ≠ b459 := Nat.ne_of_lt (Nat.lt_of_lt_of_le f466.lt (Nat.le_of_eq g459.symm))
        have f468 := (f341.keep K443)
        have ne469 : b301 ≠ b459 := Nat.ne_of_lt (Nat.lt_of_lt_of_le f468.lt (Nat.le_of_eq g459.symm))
        have f470 := (f448.keep K443 nin0)
        have ne471 : b311 ≠ b459 := Nat.ne_of_lt (Nat.lt_of_lt_of_le f470.lt (Nat.le_of_eq g459.symm))
        have f472 := (f344.keep K443)
        have ne473 : t_335 ≠ b459 := Nat.ne_of_lt (Nat.lt_of_lt_of_le f472.lt (Nat.le_of_eq g459.symm))
        have o459 : n0 ≤ b459 := Nat.le_trans f458 (Nat.le_of_eq g459.symm)
        have z459 : h0.size ≤ b459 := Nat.le_trans KK443.1 (Nat.le_of_eq g459.symm)
        have CH474 : CHr Z own_EL s.vm h0 vm225 h459 := CH457.trans (CHr.ext E459 CH457.1)
        have Yb475 : Safe Z own_EL vm225 h459 b459 := Safe.ext E459 CH457.1 (Safe.new (Nat.le_of_eq g459.symm))
        have K459 : Keep h0 h459 [] := KK443.ext E459
        have f476 : Fld Z h459 b459 "com/example/fastpath/fastpath/settings/RedisServer" "tls" "Z" (.int (0 : Int32)) := D459 (Or.inr (oG hw 37 rfl)) (ty := .boolean) (by decide)
        have f477 : Fld Z h459 b459 "com/example/fastpath/fastpath/settings/RedisServer" "host" "Ljava/lang/String;" .null := D459 (Or.inr (oG hw 39 rfl)) (ty := (.object "java/lang/String")) (by decide)
        have f478 : Fld Z h459 b459 "com/example/fastpath/fastpath/settings/RedisServer" "port" "I" (.int (0 : Int32)) := D459 (Or.inr (oG hw 41 rfl)) (ty := .int) (by decide)
        have f479 : Fld Z h459 b459 "com/example/fastpath/fastpath/settings/RedisServer" "user" "Ljava/lang/String;" .null := D459 (Or.inr (oG hw 43 rfl)) (ty := (.object "java/lang/String")) (by decide)
        have f480 : Fld Z h459 b459 "com/example/fastpath/fastpath/settings/RedisServer" "password" "Ljava/lang/String;" .null := D459 (Or.inr (oG hw 45 rfl)) (ty := (.object "java/lang/String")) (by decide)
        have f481 : Fld Z h459 b459 "com/example/fastpath/fastpath/settings/RedisServer" "database" "I" (.int (0 : Int32)) := D459 (Or.inr (oG hw 47 rfl)) (ty := .int) (by decide)
        have pre482 : own_V p e below _ T459 (mkF m 256 #[iv p0, iv p1, iv p2, iv p3, iv p4, iv x5_S0, iv x10_S0, iv x15_S0, iv nn, iv c0, iv c1, iv c2, rv x225_L12, rv sgx, iv po, iv db, rv b301, rv sg_443, .unset, .unset, .unset] [(.int db), (.ref b301), (.ref sg_443), (.int po), (.ref sgx), (.int x5_S0), (.ref b459), (.ref b459)]) := fun t kt => pre440 t (by
         refine st443 _ ?_
         refine XS.goto X443.here hx rfl (pc0 := 234) (pc' := 238) rfl (hb hby at_234) (by decide) (by decide) ?_
         refine XS.astore X443.here hx rfl (hb hby at_238) rfl rfl rfl ?_
         refine st459 _ ?_
         refine XS.dup X459.here hx rfl (hb hby at_243) rfl rfl ?_
         show Steps _ _ _ (T459.setTop (mkF m 244 #[iv p0, iv p1, iv p2, iv p3, iv p4, iv x5_S0, iv x10_S0, iv x15_S0, iv nn, iv c0, iv c1, iv c2, rv x225_L12, rv sgx, iv po, iv db, rv b301, rv sg_443, .unset, .unset, .unset] [(.ref b459), (.ref b459)])) _
         refine XS.iload X459.here hx rfl (hb hby at_244) rfl ?_
         refine XS.aload X459.here hx rfl (hb hby at_246) rfl rfl ?_
         refine XS.iload X459.here hx rfl (hb hby at_248) rfl ?_
         refine XS.aload X459.here hx rfl (hb hby at_250) rfl rfl ?_
         refine XS.aload X459.here hx rfl (hb hby at_252) rfl rfl ?_
         refine XS.iload X459.here hx rfl (hb hby at_254) rfl ?_
         exact kt)
        have f483 := (Nat.le_trans f458 E459.1)
        obtain ⟨_, T484, L484, X484, hQ484, st484⟩ := own_cI X459 hx rfl hown225 hZ225 (oG hw 27 rfl) (oG hw 28 rfl) (oG hw 26 rfl) (oG hw 29 rfl) (by decide) (rmRI2 l Z a0 hw [] b459 x5_S0 sgx po sg_443 b301 db h459 n0 f483 A459 f476 f477 f478 f479 f480 f481 mp5_S0 o459) (W := 1) (by decide) (by decide) (g := (mkF m 256 #[iv p0, iv p1, iv p2, iv p3, iv p4, iv x5_S0, iv x10_S0, iv x15_S0, iv nn, iv c0, iv c1, iv c2, rv x225_L12, rv sgx, iv po, iv db, rv b301, rv sg_443, .unset, .unset, .unset] [(.int db), (.ref b301), (.ref sg_443), (.int po), (.ref sgx), (.int x5_S0), (.ref b459), (.ref b459)])) rfl (by rw [hml]; rfl) (a := b459) (argsL := [(.int x5_S0), (.ref sgx), (.int po), (.ref sg_443), (.ref b301), (.int db)]) (rest := [(.ref b459)]) (lenOf pd35 rfl) rfl (own_ww rfl) (hb hby at_256) e459 rfl (by decide) (by decide)
        obtain ⟨rfl, N484q, K484, f485, f486, f487, f488, f489⟩ := hQ484
        have KK484 : Keep h0 T484.heap [] := Keep.trans K459 K484 (allS (Or.inr z459) all0)
        have CH490 : CHr Z own_EL s.vm h0 vm225 T484.heap := CH474.trans (CHr.keep K484 (sfS Yb475 sf0) CH474.1)
        have N484 := Fr.app N443 N484q
        have pre491 : own_V p e below _ T484 (mkF m 263 #[iv p0, iv p1, iv p2, iv p3, iv p4, iv x5_S0, iv x10_S0, iv x15_S0, iv nn, iv c0, iv c1, iv c2, rv x225_L12, rv sgx, iv po, iv db, rv b301, rv sg_443, rv b459, .unset, .unset] [(.ref b459)]) := fun t kt => pre482 t (by
         refine st484 _ ?_
         refine XS.astore X484.here hx rfl (hb hby at_259) rfl rfl rfl ?_
         refine XS.aload X484.here hx rfl (hb hby at_261) rfl rfl ?_
         exact kt)
        have f492 := (A459.keep K484)
        have f493 := ((f460.ext E459).keep K484)
        have f494 := (((((((f235.ext E301).ext E311).other W325 (Or.inl ne313)).keep K335 (ninS ne302 nin0)).keep K443 nin0).ext E459).keep K484 (ninS ne461 nin0))
        have f495 := (((((((f236.ext E301).ext E311).other W325 (Or.inl ne313)).keep K335 (ninS ne302 nin0)).keep K443 nin0).ext E459).keep K484 (ninS ne461 nin0))
        have f496 := ((f462.ext E459).keep K484 (ninS ne463 nin0))
        have f497 := (own_staKeep ((own_staKeep f441 K443 ns0).ext E459) K484 (nsS A459.nostat ns0))
        have f498 := (own_staKeep ((own_staKeep (own_staKeep (((f229.ext E301).ext E311).wr W325) K335 (nsS f330.nostat ns0)) K443 ns0).ext E459) K484 (nsS A459.nostat ns0))
        have f499 := (own_staKeep ((own_staKeep (own_staKeep (((f230.ext E301).ext E311).wr W325) K335 (nsS f330.nostat ns0)) K443 ns0).ext E459) K484 (nsS A459.nostat ns0))
        have f500 := ((f464.ext E459).keep K484 (ninS ne465 nin0))
        have f501 := ((f466.ext E459).keep K484 (ninS ne467 nin0))
        have f502 := (Nat.le_trans f483 K484.1)
        have f504 := (Nat.le_trans (Nat.le_trans (Nat.le_trans (Nat.le_trans (Nat.le_trans (Nat.le_trans (Nat.le_trans f233 E301.1) E311.1) (Keep.of_wr W325).1) K335.1) K443.1) E459.1) K484.1)
        have f505 : Safe Z own_EL vm225 T484.heap b301 := (Safe.keep K484 (sfS Yb475 sf0) CH474.1 (Safe.ext E459 CH457.1 (Safe.keep K443 sf0 CH353.1 (Safe.keep K335 (sfS f340 sf0) CH326.1 f340))))
        have f506 := ((f468.ext E459).keep K484)
        have f507 : Safe Z own_EL vm225 T484.heap b311 := (Safe.keep K484 (sfS Yb475 sf0) CH474.1 (Safe.ext E459 CH457.1 (Safe.keep K443 sf0 CH353.1 (Safe.keep K335 (sfS f340 sf0) CH326.1 (Safe.wr W325 Yb322 CH321.1 Yb322)))))
        have f508 := ((f470.ext E459).keep K484 (ninS ne471 nin0))
        have f509 : Safe Z own_EL vm225 T484.heap t_335 := (Safe.keep K484 (sfS Yb475 sf0) CH474.1 (Safe.ext E459 CH457.1 (Safe.keep K443 sf0 CH353.1 (Safe.keep K335 (sfS f340 sf0) CH326.1 Yn352))))
        have f510 := ((f472.ext E459).keep K484)
        have f511 : Safe Z own_EL vm225 T484.heap b459 := (Safe.keep K484 (sfS Yb475 sf0) CH474.1 Yb475)
        obtain ⟨cq512, kq512, q512a, q512b, q512c⟩ := isOf hZ225 rfl f492
        obtain ⟨_, _, ⟨T503, L503, k503, n503⟩, -, Xw503, hSw503, gr503, ⟨Lc503, hQ503, l503, y503, z503, CHq503⟩, st503⟩ := X484.virtualBackS hx (y := own_y45) (z := own_y45) hown225 (mvT hZ225 (oG hw 48 rfl)) (mvT hZ225 (oG hw 49 rfl)) (notFace_of_selects (args := #[]) (mvT hZ225 (oG hw 51 rfl))) (mvT hZ225 (oG hw 51 rfl)) (mvT hZ225 (oG hw 50 rfl)) (by decide) (backOfSH (W := 0) (rmTo l Z a0 hw [] b459 x5_S0 sgx po db (.ref b301) x10_S0 tx ktx nn vsx (own_cl nn c0 c1 c2) zC dO kO vO dT kT vT T484.heap n0 f502 f492 f485 f486 f487 f488 f489 f493 f494 f495 f496 f497 hz f498 f499 f500 f501 hO hT (Or.inr ⟨hc182_239, _, rfl⟩) whc (own_cln hnn) (own_clk hnn) hpo.1 hpo.2 hdb) hZ225 (oG hw 52 rfl) (oG hw 26 rfl) (by decide) (by decide) hEL CH490.1) q512a q512c (g := (mkF m 263 #[iv p0, iv p1, iv p2, iv p3, iv p4, iv x5_S0, iv x10_S0, iv x15_S0, iv nn, iv c0, iv c1, iv c2, rv x225_L12, rv sgx, iv po, iv db, rv b301, rv sg_443, rv b459, .unset, .unset] [(.ref b459)])) rfl (by rw [hml]; rfl) (Steps.refl _) (argsL := []) (rest := []) (lenOf pd31 rfl) rfl (by show 2 * 0 + _ ≤ _; exact Nat.le_of_eq rfl) (hb hby at_263) (fun _ _ => ⟨rfl, rfl, (by decide : 12 + 22 ≤ _), (by decide : 29 + 410 ≤ _)⟩)
        dsimp only [Pt.U, Pt.locs, Pt.cells, Pt.slots] at Xw503 hSw503 gr503 l503 y503 z503 st503 hQ503 CHq503
        subst l503 y503 z503
        obtain ⟨X503, hS503, hZ503, hown503⟩ := rebS hS225 f504 Xw503 hSw503 gr503 hZ225 hown225
        obtain ⟨sg_503, yv_503, ky_503, zl_503, ys_503, rfl, N503q, K503, sx503_0, sx503_1, px503_0, f513, f514, f515, f516, f517, f518⟩ := hQ503
        have osg_503 : n0 ≤ sg_503 := Nat.le_trans f502 sx503_0
        have zsg_503 : h0.size ≤ sg_503 := Nat.le_trans KK484.1 sx503_0
        have ne519 : sgx ≠ sg_503 := Nat.ne_of_lt (Nat.lt_of_lt_of_le f493.lt sx503_0)
        have ne520 : tx ≠ sg_503 := Nat.ne_of_lt (Nat.lt_of_lt_of_le f496.lt sx503_0)
        have ne521 : dO ≠ sg_503 := Nat.ne_of_lt (Nat.lt_of_lt_of_le f500.lt sx503_0)
        have ne522 : dT ≠ sg_503 := Nat.ne_of_lt (Nat.lt_of_lt_of_le f501.lt sx503_0)
        have ne523 : b301 ≠ sg_503 := Nat.ne_of_lt (Nat.lt_of_lt_of_le f506.lt sx503_0)
        have ne524 : b311 ≠ sg_503 := Nat.ne_of_lt (Nat.lt_of_lt_of_le f508.lt sx503_0)
        have ne525 : t_335 ≠ sg_503 := Nat.ne_of_lt (Nat.lt_of_lt_of_le f510.lt sx503_0)
        have ne526 : b459 ≠ sg_503 := Nat.ne_of_lt (Nat.lt_of_lt_of_le f492.lt sx503_0)
        have oyv_503 : n0 ≤ yv_503 := Nat.le_trans f502 sx503_1
        have zyv_503 : h0.size ≤ yv_503 := Nat.le_trans KK484.1 sx503_1
        have ne527 : sgx ≠ yv_503 := Nat.ne_of_lt (Nat.lt_of_lt_of_le f493.lt sx503_1)
        have ne528 : tx ≠ yv_503 := Nat.ne_of_lt (Nat.lt_of_lt_of_le f496.lt sx503_1)
        have ne529 : dO ≠ yv_503 := Nat.ne_of_lt (Nat.lt_of_lt_of_le f500.lt sx503_1)
        have ne530 : dT ≠ yv_503 := Nat.ne_of_lt (Nat.lt_of_lt_of_le f501.lt sx503_1)
        have ne531 : b301 ≠ yv_503 := Nat.ne_of_lt (Nat.lt_of_lt_of_le f506.lt sx503_1)
        have ne532 : b311 ≠ yv_503 := Nat.ne_of_lt (Nat.lt_of_lt_of_le f508.lt sx503_1)
        have ne533 : t_335 ≠ yv_503 := Nat.ne_of_lt (Nat.lt_of_lt_of_le f510.lt sx503_1)
        have ne534 : b459 ≠ yv_503 := Nat.ne_of_lt (Nat.lt_of_lt_of_le f492.lt sx503_1)
        have KK503 : Keep h0 T503.heap [] := Keep.trans KK484 K503 all0
        have CH535 : CHr Z own_EL s.vm h0 T503.vm T503.heap := CH490.trans CHq503
        have Yr536 : Safe Z own_EL T503.vm T503.heap b301 := CHr.safe CHq503 f506.lt f505
        have Yr537 : Safe Z own_EL T503.vm T503.heap b311 := CHr.safe CHq503 f508.lt f507
        have Yr538 : Safe Z own_EL T503.vm T503.heap t_335 := CHr.safe CHq503 f510.lt f509
        have Yr539 : Safe Z own_EL T503.vm T503.heap b459 := CHr.safe CHq503 f492.lt f511
        have N503 := Fr.app N484 N503q
        have pre540 : own_V p e below _ T503 (mkF m 268 #[iv p0, iv p1, iv p2, iv p3, iv p4, iv x5_S0, iv x10_S0, iv x15_S0, iv nn, iv c0, iv c1, iv c2, rv x225_L12, rv sgx, iv po, iv db, rv b301, rv sg_443, rv b459, rv sg_503, .unset] []) := fun t kt => pre491 t (by
         refine st503.trans ?_
         refine XS.astore X503.here hx rfl (hb hby at_266) rfl rfl rfl ?_
         exact kt)
        have f541 := (Nat.le_trans f502 K503.1)
        have f542 := (own_staKeep f497 K503 ns0)
        have f543 := (own_staKeep (own_staKeep ((own_staKeep (own_staKeep (((f228.ext E301).ext E311).wr W325) K335 (nsS f330.nostat ns0)) K443 ns0).ext E459) K484 (nsS A459.nostat ns0)) K503 ns0)
        exact ⟨T503, _, (iv p0), (iv p1), (iv p2), (iv p3), (iv p4), (iv x15_S0), (rv x225_L12), (rv sgx), (rv b301), (rv sg_443), (rv b459), sg_503, T503.vm, T503.heap.size, sg_503, yv_503, ky_503, zl_503, ys_503, X503.more (by decide) (by decide), N503, KK503, CH535, f541, f542, f543, (Nat.le_refl _), hZ503, hown503, hS503, f513, f514, f515, f516, (own_fl f517 f518 hnn hpo.2), rfl, pre540⟩
  obtain ⟨T544, L544, y0, y1, y2, y3, y4, y7, y12, y13, y16, y17, y18, x544_L19, vm544, kx544, sgt, yvt, kyt, zlt, yst, X544, N544, K544, CH544, f545, f546, f547, f548, hZ544, hown544, hS544, f549, f550, f551, f552, rd0, mq544_L19, pre544⟩ := Mg544
  rw [mq544_L19] at pre544
  have pre553 : own_V p e below _ T544 (mkF m 277 #[y0, y1, y2, y3, y4, iv x5_S0, iv x10_S0, y7, iv nn, iv c0, iv c1, iv c2, y12, y13, iv po, iv db, y16, y17, y18, rv sgt, iv (0 : Int32)] [(.int (114 : Int32)), (.int (0 : Int32)), (.ref sgt)]) := fun t kt => pre544 t (by
   refine XS.iconst X544.here hx rfl (hb hby at_268) ?_
   refine XS.istore X544.here hx rfl (hb hby at_269) rfl rfl ?_
   refine XS.aload X544.here hx rfl (hb hby at_271) rfl rfl ?_
   refine XS.iload X544.here hx rfl (hb hby at_273) rfl ?_
   refine XS.bipush X544.here hx rfl (hb hby at_275) ?_
   exact kt)
  obtain ⟨_, T554, L554, X554, hQ554, st554⟩ := own_cS X544 hx hown544 hZ544 (oG hw 187 rfl) (oG hw 188 rfl) (oG hw 189 rfl) (oG hw 190 rfl) (by decide) (rmLt l Z a0 hw [] sgt (0 : Int32) (114 : Int32) yvt kyt zlt yst zC fv (114 : Int32) ((101 : Int32) :: ((100 : Int32) :: ((105 : Int32) :: ((115 : Int32) :: (own_tl x5_S0 ++ ((58 : Int32) :: ((47 : Int32) :: ((47 : Int32) :: (own_lg x10_S0 ++ (own_t0 nn c0 c1 c2 ++ ((58 : Int32) :: (own_dl po ++ ((47 : Int32) :: (own_dl db ++ ([] : List Int32))))))))))))))) T544.heap n0 f545 f549 f550 f551 f552 f546 hz f547 hfv rd0 (show nar .char (own_ch (114 : Int32)) = (114 : Int32) from by decide)) (W := 0) (by decide) (by decide) (g := (mkF m 277 #[y0, y1, y2, y3, y4, iv x5_S0, iv x10_S0, y7, iv nn, iv c0, iv c1, iv c2, y12, y13, iv po, iv db, y16, y17, y18, rv sgt, iv (0 : Int32)] [(.int (114 : Int32)), (.int (0 : Int32)), (.ref sgt)])) rfl (by rw [hml]; rfl) (argsL := [(.ref sgt), (.int (0 : Int32)), (.int (114 : Int32))]) (rest := []) (lenOf pd37 rfl) rfl (own_ww rfl) (hb hby at_277) rfl rfl (by decide) (by decide)
  obtain ⟨rfl, N554q, e554⟩ := hQ554
  have N554 := Fr.app N544 N554q
  have rd554 : own_rst yst zlt ((0 : Int32) + (1 : Int32)) ((101 : Int32) :: ((100 : Int32) :: ((105 : Int32) :: ((115 : Int32) :: (own_tl x5_S0 ++ ((58 : Int32) :: ((47 : Int32) :: ((47 : Int32) :: (own_lg x10_S0 ++ (own_t0 nn c0 c1 c2 ++ ((58 : Int32) :: (own_dl po ++ ((47 : Int32) :: (own_dl db ++ ([] : List Int32))))))))))))))) := own_rS rd0
  have pre555 : own_V p e below _ T554 (mkF m 288 #[y0, y1, y2, y3, y4, iv x5_S0, iv x10_S0, y7, iv nn, iv c0, iv c1, iv c2, y12, y13, iv po, iv db, y16, y17, y18, rv sgt, iv ((0 : Int32) + (1 : Int32))] [(.int (101 : Int32)), (.int ((0 : Int32) + (1 : Int32))), (.ref sgt)]) := fun t kt => pre553 t (by
   refine st554 _ ?_
   refine XS.istore X554.here hx rfl (hb hby at_280) rfl rfl ?_
   refine XS.aload X554.here hx rfl (hb hby at_282) rfl rfl ?_
   refine XS.iload X554.here hx rfl (hb hby at_284) rfl ?_
   refine XS.bipush X554.here hx rfl (hb hby at_286) ?_
   exact kt)
  obtain ⟨_, T556, L556, X556, hQ556, st556⟩ := own_cS X554 hx hown544 hZ544 (oG hw 187 rfl) (oG hw 188 rfl) (oG hw 189 rfl) (oG hw 190 rfl) (by decide) (rmLt l Z a0 hw [] sgt ((0 : Int32) + (1 : Int32)) (101 : Int32) yvt kyt zlt yst zC fv (101 : Int32) ((100 : Int32) :: ((105 : Int32) :: ((115 : Int32) :: (own_tl x5_S0 ++ ((58 : Int32) :: ((47 : Int32) :: ((47 : Int32) :: (own_lg x10_S0 ++ (own_t0 nn c0 c1 c2 ++ ((58 : Int32) :: (own_dl po ++ ((47 : Int32) :: (own_dl db ++ ([] : List Int32)))))))))))))) T544.heap n0 f545 f549 f550 f551 f552 f546 hz f547 hfv rd554 (show nar .char (own_ch (101 : Int32)) = (101 : Int32) from by decide)) (W := 0) (by decide) (by decide) (g := (mkF m 288 #[y0, y1, y2, y3, y4, iv x5_S0, iv x10_S0, y7, iv nn, iv c0, iv c1, iv c2, y12, y13, iv po, iv db, y16, y17, y18, rv sgt, iv ((0 : Int32) + (1 : Int32))] [(.int (101 : Int32)), (.int ((0 : Int32) + (1 : Int32))), (.ref sgt)])) rfl (by rw [hml]; rfl) (argsL := [(.ref sgt), (.int ((0 : Int32) + (1 : Int32))), (.int (101 : Int32))]) (rest := []) (lenOf pd37 rfl) rfl (own_ww rfl) (hb hby at_288) e554 rfl (by decide) (by decide)
  obtain ⟨rfl, N556q, e556⟩ := hQ556
  have N556 := Fr.app N554 N556q
  have rd556 : own_rst yst zlt (((0 : Int32) + (1 : Int32)) + (1 : Int32)) ((100 : Int32) :: ((105 : Int32) :: ((115 : Int32) :: (own_tl x5_S0 ++ ((58 : Int32) :: ((47 : Int32) :: ((47 : Int32) :: (own_lg x10_S0 ++ (own_t0 nn c0 c1 c2 ++ ((58 : Int32) :: (own_dl po ++ ((47 : Int32) :: (own_dl db ++ ([] : List Int32)))))))))))))) := own_rS rd554
  have pre557 : own_V p e below _ T556 (mkF m 299 #[y0, y1, y2, y3, y4, iv x5_S0, iv x10_S0, y7, iv nn, iv c0, iv c1, iv c2, y12, y13, iv po, iv db, y16, y17, y18, rv sgt, iv (((0 : Int32) + (1 : Int32)) + (1 : Int32))] [(.int (100 : Int32)), (.int (((0 : Int32) + (1 : Int32)) + (1 : Int32))), (.ref sgt)]) := fun t kt => pre555 t (by
   refine st556 _ ?_
   refine XS.istore X556.here hx rfl (hb hby at_291) rfl rfl ?_
   refine XS.aload X556.here hx rfl (hb hby at_293) rfl rfl ?_
   refine XS.iload X556.here hx rfl (hb hby at_295) rfl ?_
   refine XS.bipush X556.here hx rfl (hb hby at_297) ?_
   exact kt)
  obtain ⟨_, T558, L558, X558, hQ558, st558⟩ := own_cS X556 hx hown544 hZ544 (oG hw 187 rfl) (oG hw 188 rfl) (oG hw 189 rfl) (oG hw 190 rfl) (by decide) (rmLt l Z a0 hw [] sgt (((0 : Int32) + (1 : Int32)) + (1 : Int32)) (100 : Int32) yvt kyt zlt yst zC fv (100 : Int32) ((105 : Int32) :: ((115 : Int32) :: (own_tl x5_S0 ++ ((58 : Int32) :: ((47 : Int32) :: ((47 : Int32) :: (own_lg x10_S0 ++ (own_t0 nn c0 c1 c2 ++ ((58 : Int32) :: (own_dl po ++ ((47 : Int32) :: (own_dl db ++ ([] : List Int32))))))))))))) T544.heap n0 f545 f549 f550 f551 f552 f546 hz f547 hfv rd556 (show nar .char (own_ch (100 : Int32)) = (100 : Int32) from by decide)) (W := 0) (by decide) (by decide) (g := (mkF m 299 #[y0, y1, y2, y3, y4, iv x5_S0, iv x10_S0, y7, iv nn, iv c0, iv c1, iv c2, y12, y13, iv po, iv db, y16, y17, y18, rv sgt, iv (((0 : Int32) + (1 : Int32)) + (1 : Int32))] [(.int (100 : Int32)), (.int (((0 : Int32) + (1 : Int32)) + (1 : Int32))), (.ref sgt)])) rfl (by rw [hml]; rfl) (argsL := [(.ref sgt), (.int (((0 : Int32) + (1 : Int32)) + (1 : Int32))), (.int (100 : Int32))]) (rest := []) (lenOf pd37 rfl) rfl (own_ww rfl) (hb hby at_299) e556 rfl (by decide) (by decide)
  obtain ⟨rfl, N558q, e558⟩ := hQ558
  have N558 := Fr.app N556 N558q
  have rd558 : own_rst yst zlt ((((0 : Int32) + (1 : Int32)) + (1 : Int32)) + (1 : Int32)) ((105 : Int32) :: ((115 : Int32) :: (own_tl x5_S0 ++ ((58 : Int32) :: ((47 : Int32) :: ((47 : Int32) :: (own_lg x10_S0 ++ (own_t0 nn c0 c1 c2 ++ ((58 : Int32) :: (own_dl po ++ ((47 : Int32) :: (own_dl db ++ ([] : List Int32))))))))))))) := own_rS rd556
  have pre559 : own_V p e below _ T558 (mkF m 310 #[y0, y1, y2, y3, y4, iv x5_S0, iv x10_S0, y7, iv nn, iv c0, iv c1, iv c2, y12, y13, iv po, iv db, y16, y17, y18, rv sgt, iv ((((0 : Int32) + (1 : Int32)) + (1 : Int32)) + (1 : Int32))] [(.int (105 : Int32)), (.int ((((0 : Int32) + (1 : Int32)) + (1 : Int32)) + (1 : Int32))), (.ref sgt)]) := fun t kt => pre557 t (by
   refine st558 _ ?_
   refine XS.istore X558.here hx rfl (hb hby at_302) rfl rfl ?_
   refine XS.aload X558.here hx rfl (hb hby at_304) rfl rfl ?_
   show Steps _ _ _ (T558.setTop (mkF m 306 #[y0, y1, y2, y3, y4, iv x5_S0, iv x10_S0, y7, iv nn, iv c0, iv c1, iv c2, y12, y13, iv po, iv db, y16, y17, y18, rv sgt, iv ((((0 : Int32) + (1 : Int32)) + (1 : Int32)) + (1 : Int32))] [(.ref sgt)])) _
   refine XS.iload X558.here hx rfl (hb hby at_306) rfl ?_
   refine XS.bipush X558.here hx rfl (hb hby at_308) ?_
   exact kt)
  obtain ⟨_, T560, L560, X560, hQ560, st560⟩ := own_cS X558 hx hown544 hZ544 (oG hw 187 rfl) (oG hw 188 rfl) (oG hw 189 rfl) (oG hw 190 rfl) (by decide) (rmLt l Z a0 hw [] sgt ((((0 : Int32) + (1 : Int32)) + (1 : Int32)) + (1 : Int32)) (105 : Int32) yvt kyt zlt yst zC fv (105 : Int32) ((115 : Int32) :: (own_tl x5_S0 ++ ((58 : Int32) :: ((47 : Int32) :: ((47 : Int32) :: (own_lg x10_S0 ++ (own_t0 nn c0 c1 c2 ++ ((58 : Int32) :: (own_dl po ++ ((47 : Int32) :: (own_dl db ++ ([] : List Int32)))))))))))) T544.heap n0 f545 f549 f550 f551 f552 f546 hz f547 hfv rd558 (show nar .char (own_ch (105 : Int32)) = (105 : Int32) from by decide)) (W := 0) (by decide) (by decide) (g := (mkF m 310 #[y0, y1, y2, y3, y4, iv x5_S0, iv x10_S0, y7, iv nn, iv c0, iv c1, iv c2, y12, y13, iv po, iv db, y16, y17, y18, rv sgt, iv ((((0 : Int32) + (1 : Int32)) + (1 : Int32)) + (1 : Int32))] [(.int (105 : Int32)), (.int ((((0 : Int32) + (1 : Int32)) + (1 : Int32)) + (1 : Int32))), (.ref sgt)])) rfl (by rw [hml]; rfl) (argsL := [(.ref sgt), (.int ((((0 : Int32) + (1 : Int32)) + (1 : Int32)) + (1 : Int32))), (.int (105 : Int32))]) (rest := []) (lenOf pd37 rfl) rfl (own_ww rfl) (hb hby at_310) e558 rfl (by decide) (by decide)
  obtain ⟨rfl, N560q, e560⟩ := hQ560
  have N560 := Fr.app N558 N560q
  have rd560 : own_rst yst zlt (((((0 : Int32) + (1 : Int32)) + (1 : Int32)) + (1 : Int32)) + (1 : Int32)) ((115 : Int32) :: (own_tl x5_S0 ++ ((58 : Int32) :: ((47 : Int32) :: ((47 : Int32) :: (own_lg x10_S0 ++ (own_t0 nn c0 c1 c2 ++ ((58 : Int32) :: (own_dl po ++ ((47 : Int32) :: (own_dl db ++ ([] : List Int32)))))))))))) := own_rS rd558
  have pre561 : own_V p e below _ T560 (mkF m 321 #[y0, y1, y2, y3, y4, iv x5_S0, iv x10_S0, y7, iv nn, iv c0, iv c1, iv c2, y12, y13, iv po, iv db, y16, y17, y18, rv sgt, iv (((((0 : Int32) + (1 : Int32)) + (1 : Int32)) + (1 : Int32)) + (1 : Int32))] [(.int (115 : Int32)), (.int (((((0 : Int32) + (1 : Int32)) + (1 : Int32)) + (1 : Int32)) + (1 : Int32))), (.ref sgt)]) := fun t kt => pre559 t (by
   refine st560 _ ?_
   refine XS.istore X560.here hx rfl (hb hby at_313) rfl rfl ?_
   refine XS.aload X560.here hx rfl (hb hby at_315) rfl rfl ?_
   refine XS.iload X560.here hx rfl (hb hby at_317) rfl ?_
   refine XS.bipush X560.here hx rfl (hb hby at_319) ?_
   exact kt)
  obtain ⟨_, T562, L562, X562, hQ562, st562⟩ := own_cS X560 hx hown544 hZ544 (oG hw 187 rfl) (oG hw 188 rfl) (oG hw 189 rfl) (oG hw 190 rfl) (by decide) (rmLt l Z a0 hw [] sgt (((((0 : Int32) + (1 : Int32)) + (1 : Int32)) + (1 : Int32)) + (1 : Int32)) (115 : Int32) yvt kyt zlt yst zC fv (115 : Int32) (own_tl x5_S0 ++ ((58 : Int32) :: ((47 : Int32) :: ((47 : Int32) :: (own_lg x10_S0 ++ (own_t0 nn c0 c1 c2 ++ ((58 : Int32) :: (own_dl po ++ ((47 : Int32) :: (own_dl db ++ ([] : List Int32))))))))))) T544.heap n0 f545 f549 f550 f551 f552 f546 hz f547 hfv rd560 (show nar .char (own_ch (115 : Int32)) = (115 : Int32) from by decide)) (W := 0) (by decide) (by decide) (g := (mkF m 321 #[y0, y1, y2, y3, y4, iv x5_S0, iv x10_S0, y7, iv nn, iv c0, iv c1, iv c2, y12, y13, iv po, iv db, y16, y17, y18, rv sgt, iv (((((0 : Int32) + (1 : Int32)) + (1 : Int32)) + (1 : Int32)) + (1 : Int32))] [(.int (115 : Int32)), (.int (((((0 : Int32) + (1 : Int32)) + (1 : Int32)) + (1 : Int32)) + (1 : Int32))), (.ref sgt)])) rfl (by rw [hml]; rfl) (argsL := [(.ref sgt), (.int (((((0 : Int32) + (1 : Int32)) + (1 : Int32)) + (1 : Int32)) + (1 : Int32))), (.int (115 : Int32))]) (rest := []) (lenOf pd37 rfl) rfl (own_ww rfl) (hb hby at_321) e560 rfl (by decide) (by decide)
  obtain ⟨rfl, N562q, e562⟩ := hQ562
  have N562 := Fr.app N560 N562q
  have rd562 : own_rst yst zlt ((((((0 : Int32) + (1 : Int32)) + (1 : Int32)) + (1 : Int32)) + (1 : Int32)) + (1 : Int32)) (own_tl x5_S0 ++ ((58 : Int32) :: ((47 : Int32) :: ((47 : Int32) :: (own_lg x10_S0 ++ (own_t0 nn c0 c1 c2 ++ ((58 : Int32) :: (own_dl po ++ ((47 : Int32) :: (own_dl db ++ ([] : List Int32))))))))))) := own_rS rd560
  have pre563 : own_V p e below _ T562 (mkF m 326 #[y0, y1, y2, y3, y4, iv x5_S0, iv x10_S0, y7, iv nn, iv c0, iv c1, iv c2, y12, y13, iv po, iv db, y16, y17, y18, rv sgt, iv ((((((0 : Int32) + (1 : Int32)) + (1 : Int32)) + (1 : Int32)) + (1 : Int32)) + (1 : Int32))] []) := fun t kt => pre561 t (by
   refine st562 _ ?_
   refine XS.istore X562.here hx rfl (hb hby at_324) rfl rfl ?_
   exact kt)
  have Mg570 : ∃ (T570 : State) (L570 : List Loc) (x570_L20 : Int32), Stand p l e room_1 (s.setVm vm544) m #[(.int p0), (.int p1), (.int p2), (.int p3), (.int p4)] below meth c T570 L570 34 439 ∧ Fr n0 L570 ∧ T570.heap = T544.heap ∧ own_rst yst zlt x570_L20 ((58 : Int32) :: ((47 : Int32) :: ((47 : Int32) :: (own_lg x10_S0 ++ (own_t0 nn c0 c1 c2 ++ ((58 : Int32) :: (own_dl po ++ ((47 : Int32) :: (own_dl db ++ ([] : List Int32)))))))))) ∧ own_V p e below (s₁.setTop (entryFrame m #[(.int p0), (.int p1), (.int p2), (.int p3), (.int p4)] maxLocals)) T570 (mkF m 342 #[y0, y1, y2, y3, y4, iv x5_S0, iv x10_S0, y7, iv nn, iv c0, iv c1, iv c2, y12, y13, iv po, iv db, y16, y17, y18, rv sgt, iv x570_L20] []) := by
    have pre565 : own_V p e below _ T562 (mkF m 328 #[y0, y1, y2, y3, y4, iv x5_S0, iv x10_S0, y7, iv nn, iv c0, iv c1, iv c2, y12, y13, iv po, iv db, y16, y17, y18, rv sgt, iv ((((((0 : Int32) + (1 : Int32)) + (1 : Int32)) + (1 : Int32)) + (1 : Int32)) + (1 : Int32))] [(.int x5_S0)]) := fun t kt => pre563 t (by
     refine XS.iload X562.here hx rfl (hb hby at_326) rfl ?_
     exact kt)
    by_cases hc328_564 : x5_S0 = (0 : Int32)
    · have pre566 : own_V p e below _ T562 (mkF m 342 #[y0, y1, y2, y3, y4, iv x5_S0, iv x10_S0, y7, iv nn, iv c0, iv c1, iv c2, y12, y13, iv po, iv db, y16, y17, y18, rv sgt, iv ((((((0 : Int32) + (1 : Int32)) + (1 : Int32)) + (1 : Int32)) + (1 : Int32)) + (1 : Int32))] []) := fun t kt => pre565 t (by
       refine XS.ifYes X562.here hx rfl (pc0 := 328) (pc' := 342) rfl (hb hby at_328) rfl ((if0 _ _).trans (teq hc328_564).1) (by decide) (by decide) ?_
       exact kt)
      exact ⟨T562, _, ((((((0 : Int32) + (1 : Int32)) + (1 : Int32)) + (1 : Int32)) + (1 : Int32)) + (1 : Int32)), X562.more (by decide) (by decide), N562, e562, (own_rQ rd562 (own_tl0 hc328_564)), pre566⟩
    · have pre567 : own_V p e below _ T562 (mkF m 337 #[y0, y1, y2, y3, y4, iv x5_S0, iv x10_S0, y7, iv nn, iv c0, iv c1, iv c2, y12, y13, iv po, iv db, y16, y17, y18, rv sgt, iv ((((((0 : Int32) + (1 : Int32)) + (1 : Int32)) + (1 : Int32)) + (1 : Int32)) + (1 : Int32))] [(.int (115 : Int32)), (.int ((((((0 : Int32) + (1 : Int32)) + (1 : Int32)) + (1 : Int32)) + (1 : Int32)) + (1 : Int32))), (.ref sgt)]) := fun t kt => pre565 t (by
       refine XS.ifNo X562.here hx rfl (hb hby at_328) rfl ((if0 _ _).trans (feq hc328_564).1) ?_
       refine XS.aload X562.here hx rfl (hb hby at_331) rfl rfl ?_
       refine XS.iload X562.here hx rfl (hb hby at_333) rfl ?_
       refine XS.bipush X562.here hx rfl (hb hby at_335) ?_
       exact kt)
      obtain ⟨_, T568, L568, X568, hQ568, st568⟩ := own_cS X562 hx hown544 hZ544 (oG hw 187 rfl) (oG hw 188 rfl) (oG hw 189 rfl) (oG hw 190 rfl) (by decide) (rmLt l Z a0 hw [] sgt ((((((0 : Int32) + (1 : Int32)) + (1 : Int32)) + (1 : Int32)) + (1 : Int32)) + (1 : Int32)) (115 : Int32) yvt kyt zlt yst zC fv (115 : Int32) ((58 : Int32) :: ((47 : Int32) :: ((47 : Int32) :: (own_lg x10_S0 ++ (own_t0 nn c0 c1 c2 ++ ((58 : Int32) :: (own_dl po ++ ((47 : Int32) :: (own_dl db ++ ([] : List Int32)))))))))) T544.heap n0 f545 f549 f550 f551 f552 f546 hz f547 hfv (own_rQ rd562 (own_tl1 hc328_564)) (show nar .char (own_ch (115 : Int32)) = (115 : Int32) from by decide)) (W := 0) (by decide) (by decide) (g := (mkF m 337 #[y0, y1, y2, y3, y4, iv x5_S0, iv x10_S0, y7, iv nn, iv c0, iv c1, iv c2, y12, y13, iv po, iv db, y16, y17, y18, rv sgt, iv ((((((0 : Int32) + (1 : Int32)) + (1 : Int32)) + (1 : Int32)) + (1 : Int32)) + (1 : Int32))] [(.int (115 : Int32)), (.int ((((((0 : Int32) + (1 : Int32)) + (1 : Int32)) + (1 : Int32)) + (1 : Int32)) + (1 : Int32))), (.ref sgt)])) rfl (by rw [hml]; rfl) (argsL := [(.ref sgt), (.int ((((((0 : Int32) + (1 : Int32)) + (1 : Int32)) + (1 : Int32)) + (1 : Int32)) + (1 : Int32))), (.int (115 : Int32))]) (rest := []) (lenOf pd37 rfl) rfl (own_ww rfl) (hb hby at_337) e562 rfl (by decide) (by decide)
      obtain ⟨rfl, N568q, e568⟩ := hQ568
      have N568 := Fr.app N562 N568q
      have rd568 : own_rst yst zlt (((((((0 : Int32) + (1 : Int32)) + (1 : Int32)) + (1 : Int32)) + (1 : Int32)) + (1 : Int32)) + (1 : Int32)) ((58 : Int32) :: ((47 : Int32) :: ((47 : Int32) :: (own_lg x10_S0 ++ (own_t0 nn c0 c1 c2 ++ ((58 : Int32) :: (own_dl po ++ ((47 : Int32) :: (own_dl db ++ ([] : List Int32)))))))))) := own_rS (own_rQ rd562 (own_tl1 hc328_564))
      have pre569 : own_V p e below _ T568 (mkF m 342 #[y0, y1, y2, y3, y4, iv x5_S0, iv x10_S0, y7, iv nn, iv c0, iv c1, iv c2, y12, y13, iv po, iv db, y16, y17, y18, rv sgt, iv (((((((0 : Int32) + (1 : Int32)) + (1 : Int32)) + (1 : Int32)) + (1 : Int32)) + (1 : Int32)) + (1 : Int32))] []) := fun t kt => pre567 t (by
       refine st568 _ ?_
       refine XS.istore X568.here hx rfl (hb hby at_340) rfl rfl ?_
       exact kt)
      exact ⟨T568, _, (((((((0 : Int32) + (1 : Int32)) + (1 : Int32)) + (1 : Int32)) + (1 : Int32)) + (1 : Int32)) + (1 : Int32)), X568.more (by decide) (by decide), N568, e568, rd568, pre569⟩
  obtain ⟨T570, L570, x570_L20, X570, N570, e570, mp570_L20, pre570⟩ := Mg570
  have pre571 : own_V p e below _ T570 (mkF m 348 #[y0, y1, y2, y3, y4, iv x5_S0, iv x10_S0, y7, iv nn, iv c0, iv c1, iv c2, y12, y13, iv po, iv db, y16, y17, y18, rv sgt, iv x570_L20] [(.int (58 : Int32)), (.int x570_L20), (.ref sgt)]) := fun t kt => pre570 t (by
   refine XS.aload X570.here hx rfl (hb hby at_342) rfl rfl ?_
   refine XS.iload X570.here hx rfl (hb hby at_344) rfl ?_
   refine XS.bipush X570.here hx rfl (hb hby at_346) ?_
   exact kt)
  obtain ⟨_, T572, L572, X572, hQ572, st572⟩ := own_cS X570 hx hown544 hZ544 (oG hw 187 rfl) (oG hw 188 rfl) (oG hw 189 rfl) (oG hw 190 rfl) (by decide) (rmLt l Z a0 hw [] sgt x570_L20 (58 : Int32) yvt kyt zlt yst zC fv (58 : Int32) ((47 : Int32) :: ((47 : Int32) :: (own_lg x10_S0 ++ (own_t0 nn c0 c1 c2 ++ ((58 : Int32) :: (own_dl po ++ ((47 : Int32) :: (own_dl db ++ ([] : List Int32))))))))) T544.heap n0 f545 f549 f550 f551 f552 f546 hz f547 hfv mp570_L20 (show nar .char (own_ch (58 : Int32)) = (58 : Int32) from by decide)) (W := 0) (by decide) (by decide) (g := (mkF m 348 #[y0, y1, y2, y3, y4, iv x5_S0, iv x10_S0, y7, iv nn, iv c0, iv c1, iv c2, y12, y13, iv po, iv db, y16, y17, y18, rv sgt, iv x570_L20] [(.int (58 : Int32)), (.int x570_L20), (.ref sgt)])) rfl (by rw [hml]; rfl) (argsL := [(.ref sgt), (.int x570_L20), (.int (58 : Int32))]) (rest := []) (lenOf pd37 rfl) rfl (own_ww rfl) (hb hby at_348) e570 rfl (by decide) (by decide)
  obtain ⟨rfl, N572q, e572⟩ := hQ572
  have N572 := Fr.app N570 N572q
  have rd572 : own_rst yst zlt (x570_L20 + (1 : Int32)) ((47 : Int32) :: ((47 : Int32) :: (own_lg x10_S0 ++ (own_t0 nn c0 c1 c2 ++ ((58 : Int32) :: (own_dl po ++ ((47 : Int32) :: (own_dl db ++ ([] : List Int32))))))))) := own_rS mp570_L20
  have pre573 : own_V p e below _ T572 (mkF m 359 #[y0, y1, y2, y3, y4, iv x5_S0, iv x10_S0, y7, iv nn, iv c0, iv c1, iv c2, y12, y13, iv po, iv db, y16, y17, y18, rv sgt, iv (x570_L20 + (1 : Int32))] [(.int (47 : Int32)), (.int (x570_L20 + (1 : Int32))), (.ref sgt)]) := fun t kt => pre571 t (by
   refine st572 _ ?_
   refine XS.istore X572.here hx rfl (hb hby at_351) rfl rfl ?_
   refine XS.aload X572.here hx rfl (hb hby at_353) rfl rfl ?_
   refine XS.iload X572.here hx rfl (hb hby at_355) rfl ?_
   refine XS.bipush X572.here hx rfl (hb hby at_357) ?_
   exact kt)
  obtain ⟨_, T574, L574, X574, hQ574, st574⟩ := own_cS X572 hx hown544 hZ544 (oG hw 187 rfl) (oG hw 188 rfl) (oG hw 189 rfl) (oG hw 190 rfl) (by decide) (rmLt l Z a0 hw [] sgt (x570_L20 + (1 : Int32)) (47 : Int32) yvt kyt zlt yst zC fv (47 : Int32) ((47 : Int32) :: (own_lg x10_S0 ++ (own_t0 nn c0 c1 c2 ++ ((58 : Int32) :: (own_dl po ++ ((47 : Int32) :: (own_dl db ++ ([] : List Int32)))))))) T544.heap n0 f545 f549 f550 f551 f552 f546 hz f547 hfv rd572 (show nar .char (own_ch (47 : Int32)) = (47 : Int32) from by decide)) (W := 0) (by decide) (by decide) (g := (mkF m 359 #[y0, y1, y2, y3, y4, iv x5_S0, iv x10_S0, y7, iv nn, iv c0, iv c1, iv c2, y12, y13, iv po, iv db, y16, y17, y18, rv sgt, iv (x570_L20 + (1 : Int32))] [(.int (47 : Int32)), (.int (x570_L20 + (1 : Int32))), (.ref sgt)])) rfl (by rw [hml]; rfl) (argsL := [(.ref sgt), (.int (x570_L20 + (1 : Int32))), (.int (47 : Int32))]) (rest := []) (lenOf pd37 rfl) rfl (own_ww rfl) (hb hby at_359) e572 rfl (by decide) (by decide)
  obtain ⟨rfl, N574q, e574⟩ := hQ574
  have N574 := Fr.app N572 N574q
  have rd574 : own_rst yst zlt ((x570_L20 + (1 : Int32)) + (1 : Int32)) ((47 : Int32) :: (own_lg x10_S0 ++ (own_t0 nn c0 c1 c2 ++ ((58 : Int32) :: (own_dl po ++ ((47 : Int32) :: (own_dl db ++ ([] : List Int32)))))))) := own_rS rd572
  have pre575 : own_V p e below _ T574 (mkF m 370 #[y0, y1, y2, y3, y4, iv x5_S0, iv x10_S0, y7, iv nn, iv c0, iv c1, iv c2, y12, y13, iv po, iv db, y16, y17, y18, rv sgt, iv ((x570_L20 + (1 : Int32)) + (1 : Int32))] [(.int (47 : Int32)), (.int ((x570_L20 + (1 : Int32)) + (1 : Int32))), (.ref sgt)]) := fun t kt => pre573 t (by
   refine st574 _ ?_
   refine XS.istore X574.here hx rfl (hb hby at_362) rfl rfl ?_
   refine XS.aload X574.here hx rfl (hb hby at_364) rfl rfl ?_
   refine XS.iload X574.here hx rfl (hb hby at_366) rfl ?_
   show Steps _ _ _ (T574.setTop (mkF m 368 #[y0, y1, y2, y3, y4, iv x5_S0, iv x10_S0, y7, iv nn, iv c0, iv c1, iv c2, y12, y13, iv po, iv db, y16, y17, y18, rv sgt, iv ((x570_L20 + (1 : Int32)) + (1 : Int32))] [(.int ((x570_L20 + (1 : Int32)) + (1 : Int32))), (.ref sgt)])) _
   refine XS.bipush X574.here hx rfl (hb hby at_368) ?_
   exact kt)
  obtain ⟨_, T576, L576, X576, hQ576, st576⟩ := own_cS X574 hx hown544 hZ544 (oG hw 187 rfl) (oG hw 188 rfl) (oG hw 189 rfl) (oG hw 190 rfl) (by decide) (rmLt l Z a0 hw [] sgt ((x570_L20 + (1 : Int32)) + (1 : Int32)) (47 : Int32) yvt kyt zlt yst zC fv (47 : Int32) (own_lg x10_S0 ++ (own_t0 nn c0 c1 c2 ++ ((58 : Int32) :: (own_dl po ++ ((47 : Int32) :: (own_dl db ++ ([] : List Int32))))))) T544.heap n0 f545 f549 f550 f551 f552 f546 hz f547 hfv rd574 (show nar .char (own_ch (47 : Int32)) = (47 : Int32) from by decide)) (W := 0) (by decide) (by decide) (g := (mkF m 370 #[y0, y1, y2, y3, y4, iv x5_S0, iv x10_S0, y7, iv nn, iv c0, iv c1, iv c2, y12, y13, iv po, iv db, y16, y17, y18, rv sgt, iv ((x570_L20 + (1 : Int32)) + (1 : Int32))] [(.int (47 : Int32)), (.int ((x570_L20 + (1 : Int32)) + (1 : Int32))), (.ref sgt)])) rfl (by rw [hml]; rfl) (argsL := [(.ref sgt), (.int ((x570_L20 + (1 : Int32)) + (1 : Int32))), (.int (47 : Int32))]) (rest := []) (lenOf pd37 rfl) rfl (own_ww rfl) (hb hby at_370) e574 rfl (by decide) (by decide)
  obtain ⟨rfl, N576q, e576⟩ := hQ576
  have N576 := Fr.app N574 N576q
  have rd576 : own_rst yst zlt (((x570_L20 + (1 : Int32)) + (1 : Int32)) + (1 : Int32)) (own_lg x10_S0 ++ (own_t0 nn c0 c1 c2 ++ ((58 : Int32) :: (own_dl po ++ ((47 : Int32) :: (own_dl db ++ ([] : List Int32))))))) := own_rS rd574
  have pre577 : own_V p e below _ T576 (mkF m 375 #[y0, y1, y2, y3, y4, iv x5_S0, iv x10_S0, y7, iv nn, iv c0, iv c1, iv c2, y12, y13, iv po, iv db, y16, y17, y18, rv sgt, iv (((x570_L20 + (1 : Int32)) + (1 : Int32)) + (1 : Int32))] []) := fun t kt => pre575 t (by
   refine st576 _ ?_
   refine XS.istore X576.here hx rfl (hb hby at_373) rfl rfl ?_
   exact kt)
  have Mg590 : ∃ (T590 : State) (L590 : List Loc) (x590_L20 : Int32), Stand p l e room_1 (s.setVm vm544) m #[(.int p0), (.int p1), (.int p2), (.int p3), (.int p4)] below meth c T590 L590 34 439 ∧ Fr n0 L590 ∧ T590.heap = T544.heap ∧ own_rst yst zlt x590_L20 (own_t0 nn c0 c1 c2 ++ ((58 : Int32) :: (own_dl po ++ ((47 : Int32) :: (own_dl db ++ ([] : List Int32)))))) ∧ own_V p e below (s₁.setTop (entryFrame m #[(.int p0), (.int p1), (.int p2), (.int p3), (.int p4)] maxLocals)) T590 (mkF m 424 #[y0, y1, y2, y3, y4, iv x5_S0, iv x10_S0, y7, iv nn, iv c0, iv c1, iv c2, y12, y13, iv po, iv db, y16, y17, y18, rv sgt, iv x590_L20] []) := by
    have pre579 : own_V p e below _ T576 (mkF m 377 #[y0, y1, y2, y3, y4, iv x5_S0, iv x10_S0, y7, iv nn, iv c0, iv c1, iv c2, y12, y13, iv po, iv db, y16, y17, y18, rv sgt, iv (((x570_L20 + (1 : Int32)) + (1 : Int32)) + (1 : Int32))] [(.int x10_S0)]) := fun t kt => pre577 t (by
     refine XS.iload X576.here hx rfl (hb hby at_375) rfl ?_
     exact kt)
    by_cases hc377_578 : x10_S0 = (0 : Int32)
    · have pre580 : own_V p e below _ T576 (mkF m 424 #[y0, y1, y2, y3, y4, iv x5_S0, iv x10_S0, y7, iv nn, iv c0, iv c1, iv c2, y12, y13, iv po, iv db, y16, y17, y18, rv sgt, iv (((x570_L20 + (1 : Int32)) + (1 : Int32)) + (1 : Int32))] []) := fun t kt => pre579 t (by
       refine XS.ifYes X576.here hx rfl (pc0 := 377) (pc' := 424) rfl (hb hby at_377) rfl ((if0 _ _).trans (teq hc377_578).1) (by decide) (by decide) ?_
       exact kt)
      exact ⟨T576, _, (((x570_L20 + (1 : Int32)) + (1 : Int32)) + (1 : Int32)), X576.more (by decide) (by decide), N576, e576, (own_rQ rd576 (own_lg0 hc377_578)), pre580⟩
    · have pre581 : own_V p e below _ T576 (mkF m 386 #[y0, y1, y2, y3, y4, iv x5_S0, iv x10_S0, y7, iv nn, iv c0, iv c1, iv c2, y12, y13, iv po, iv db, y16, y17, y18, rv sgt, iv (((x570_L20 + (1 : Int32)) + (1 : Int32)) + (1 : Int32))] [(.int (42 : Int32)), (.int (((x570_L20 + (1 : Int32)) + (1 : Int32)) + (1 : Int32))), (.ref sgt)]) := fun t kt => pre579 t (by
       refine XS.ifNo X576.here hx rfl (hb hby at_377) rfl ((if0 _ _).trans (feq hc377_578).1) ?_
       refine XS.aload X576.here hx rfl (hb hby at_380) rfl rfl ?_
       refine XS.iload X576.here hx rfl (hb hby at_382) rfl ?_
       refine XS.bipush X576.here hx rfl (hb hby at_384) ?_
       exact kt)
      obtain ⟨_, T582, L582, X582, hQ582, st582⟩ := own_cS X576 hx hown544 hZ544 (oG hw 187 rfl) (oG hw 188 rfl) (oG hw 189 rfl) (oG hw 190 rfl) (by decide) (rmLt l Z a0 hw [] sgt (((x570_L20 + (1 : Int32)) + (1 : Int32)) + (1 : Int32)) (42 : Int32) yvt kyt zlt yst zC fv (42 : Int32) ((42 : Int32) :: ((42 : Int32) :: ((64 : Int32) :: (own_t0 nn c0 c1 c2 ++ ((58 : Int32) :: (own_dl po ++ ((47 : Int32) :: (own_dl db ++ ([] : List Int32))))))))) T544.heap n0 f545 f549 f550 f551 f552 f546 hz f547 hfv (own_rQ rd576 (own_lg1 hc377_578)) (show nar .char (own_ch (42 : Int32)) = (42 : Int32) from by decide)) (W := 0) (by decide) (by decide) (g := (mkF m 386 #[y0, y1, y2, y3, y4, iv x5_S0, iv x10_S0, y7, iv nn, iv c0, iv c1, iv c2, y12, y13, iv po, iv db, y16, y17, y18, rv sgt, iv (((x570_L20 + (1 : Int32)) + (1 : Int32)) + (1 : Int32))] [(.int (42 : Int32)), (.int (((x570_L20 + (1 : Int32)) + (1 : Int32)) + (1 : Int32))), (.ref sgt)])) rfl (by rw [hml]; rfl) (argsL := [(.ref sgt), (.int (((x570_L20 + (1 : Int32)) + (1 : Int32)) + (1 : Int32))), (.int (42 : Int32))]) (rest := []) (lenOf pd37 rfl) rfl (own_ww rfl) (hb hby at_386) e576 rfl (by decide) (by decide)
      obtain ⟨rfl, N582q, e582⟩ := hQ582
      have N582 := Fr.app N576 N582q
      have rd582 : own_rst yst zlt ((((x570_L20 + (1 : Int32)) + (1 : Int32)) + (1 : Int32)) + (1 : Int32)) ((42 : Int32) :: ((42 : Int32) :: ((64 : Int32) :: (own_t0 nn c0 c1 c2 ++ ((58 : Int32) :: (own_dl po ++ ((47 : Int32) :: (own_dl db ++ ([] : List Int32))))))))) := own_rS (own_rQ rd576 (own_lg1 hc377_578))
      have pre583 : own_V p e below _ T582 (mkF m 397 #[y0, y1, y2, y3, y4, iv x5_S0, iv x10_S0, y7, iv nn, iv c0, iv c1, iv c2, y12, y13, iv po, iv db, y16, y17, y18, rv sgt, iv ((((x570_L20 + (1 : Int32)) + (1 : Int32)) + (1 : Int32)) + (1 : Int32))] [(.int (42 : Int32)), (.int ((((x570_L20 + (1 : Int32)) + (1 : Int32)) + (1 : Int32)) + (1 : Int32))), (.ref sgt)]) := fun t kt => pre581 t (by
       refine st582 _ ?_
       refine XS.istore X582.here hx rfl (hb hby at_389) rfl rfl ?_
       refine XS.aload X582.here hx rfl (hb hby at_391) rfl rfl ?_
       refine XS.iload X582.here hx rfl (hb hby at_393) rfl ?_
       refine XS.bipush X582.here hx rfl (hb hby at_395) ?_
       exact kt)
      obtain ⟨_, T584, L584, X584, hQ584, st584⟩ := own_cS X582 hx hown544 hZ544 (oG hw 187 rfl) (oG hw 188 rfl) (oG hw 189 rfl) (oG hw 190 rfl) (by decide) (rmLt l Z a0 hw [] sgt ((((x570_L20 + (1 : Int32)) + (1 : Int32)) + (1 : Int32)) + (1 : Int32)) (42 : Int32) yvt kyt zlt yst zC fv (42 : Int32) ((42 : Int32) :: ((64 : Int32) :: (own_t0 nn c0 c1 c2 ++ ((58 : Int32) :: (own_dl po ++ ((47 : Int32) :: (own_dl db ++ ([] : List Int32)))))))) T544.heap n0 f545 f549 f550 f551 f552 f546 hz f547 hfv rd582 (show nar .char (own_ch (42 : Int32)) = (42 : Int32) from by decide)) (W := 0) (by decide) (by decide) (g := (mkF m 397 #[y0, y1, y2, y3, y4, iv x5_S0, iv x10_S0, y7, iv nn, iv c0, iv c1, iv c2, y12, y13, iv po, iv db, y16, y17, y18, rv sgt, iv ((((x570_L20 + (1 : Int32)) + (1 : Int32)) + (1 : Int32)) + (1 : Int32))] [(.int (42 : Int32)), (.int ((((x570_L20 + (1 : Int32)) + (1 : Int32)) + (1 : Int32)) + (1 : Int32))), (.ref sgt)])) rfl (by rw [hml]; rfl) (argsL := [(.ref sgt), (.int ((((x570_L20 + (1 : Int32)) + (1 : Int32)) + (1 : Int32)) + (1 : Int32))), (.int (42 : Int32))]) (rest := []) (lenOf pd37 rfl) rfl (own_ww rfl) (hb hby at_397) e582 rfl (by decide) (by decide)
      obtain ⟨rfl, N584q, e584⟩ := hQ584
      have N584 := Fr.app N582 N584q
      have rd584 : own_rst yst zlt (((((x570_L20 + (1 : Int32)) + (1 : Int32)) + (1 : Int32)) + (1 : Int32)) + (1 : Int32)) ((42 : Int32) :: ((64 : Int32) :: (own_t0 nn c0 c1 c2 ++ ((58 : Int32) :: (own_dl po ++ ((47 : Int32) :: (own_dl db ++ ([] : List Int32)))))))) := own_rS rd582
      have pre585 : own_V p e below _ T584 (mkF m 408 #[y0, y1, y2, y3, y4, iv x5_S0, iv x10_S0, y7, iv nn, iv c0, iv c1, iv c2, y12, y13, iv po, iv db, y16, y17, y18, rv sgt, iv (((((x570_L20 + (1 : Int32)) + (1 : Int32)) + (1 : Int32)) + (1 : Int32)) + (1 : Int32))] [(.int (42 : Int32)), (.int (((((x570_L20 + (1 : Int32)) + (1 : Int32)) + (1 : Int32)) + (1 : Int32)) + (1 : Int32))), (.ref sgt)]) := fun t kt => pre583 t (by
       refine st584 _ ?_
       refine XS.istore X584.here hx rfl (hb hby at_400) rfl rfl ?_
       refine XS.aload X584.here hx rfl (hb hby at_402) rfl rfl ?_
       refine XS.iload X584.here hx rfl (hb hby at_404) rfl ?_
       refine XS.bipush X584.here hx rfl (hb hby at_406) ?_
       exact kt)
      obtain ⟨_, T586, L586, X586, hQ586, st586⟩ := own_cS X584 hx hown544 hZ544 (oG hw 187 rfl) (oG hw 188 rfl) (oG hw 189 rfl) (oG hw 190 rfl) (by decide) (rmLt l Z a0 hw [] sgt (((((x570_L20 + (1 : Int32)) + (1 : Int32)) + (1 : Int32)) + (1 : Int32)) + (1 : Int32)) (42 : Int32) yvt kyt zlt yst zC fv (42 : Int32) ((64 : Int32) :: (own_t0 nn c0 c1 c2 ++ ((58 : Int32) :: (own_dl po ++ ((47 : Int32) :: (own_dl db ++ ([] : List Int32))))))) T544.heap n0 f545 f549 f550 f551 f552 f546 hz f547 hfv rd584 (show nar .char (own_ch (42 : Int32)) = (42 : Int32) from by decide)) (W := 0) (by decide) (by decide) (g := (mkF m 408 #[y0, y1, y2, y3, y4, iv x5_S0, iv x10_S0, y7, iv nn, iv c0, iv c1, iv c2, y12, y13, iv po, iv db, y16, y17, y18, rv sgt, iv (((((x570_L20 + (1 : Int32)) + (1 : Int32)) + (1 : Int32)) + (1 : Int32)) + (1 : Int32))] [(.int (42 : Int32)), (.int (((((x570_L20 + (1 : Int32)) + (1 : Int32)) + (1 : Int32)) + (1 : Int32)) + (1 : Int32))), (.ref sgt)])) rfl (by rw [hml]; rfl) (argsL := [(.ref sgt), (.int (((((x570_L20 + (1 : Int32)) + (1 : Int32)) + (1 : Int32)) + (1 : Int32)) + (1 : Int32))), (.int (42 : Int32))]) (rest := []) (lenOf pd37 rfl) rfl (own_ww rfl) (hb hby at_408) e584 rfl (by decide) (by decide)
      obtain ⟨rfl, N586q, e586⟩ := hQ586
      have N586 := Fr.app N584 N586q
      have rd586 : own_rst yst zlt ((((((x570_L20 + (1 : Int32)) + (1 : Int32)) + (1 : Int32)) + (1 : Int32)) + (1 : Int32)) + (1 : Int32)) ((64 : Int32) :: (own_t0 nn c0 c1 c2 ++ ((58 : Int32) :: (own_dl po ++ ((47 : Int32) :: (own_dl db ++ ([] : List Int32))))))) := own_rS rd584
      have pre587 : own_V p e below _ T586 (mkF m 419 #[y0, y1, y2, y3, y4, iv x5_S0, iv x10_S0, y7, iv nn, iv c0, iv c1, iv c2, y12, y13, iv po, iv db, y16, y17, y18, rv sgt, iv ((((((x570_L20 + (1 : Int32)) + (1 : Int32)) + (1 : Int32)) + (1 : Int32)) + (1 : Int32)) + (1 : Int32))] [(.int (64 : Int32)), (.int ((((((x570_L20 + (1 : Int32)) + (1 : Int32)) + (1 : Int32)) + (1 : Int32)) + (1 : Int32)) + (1 : Int32))), (.ref sgt)]) := fun t kt => pre585 t (by
       refine st586 _ ?_
       refine XS.istore X586.here hx rfl (hb hby at_411) rfl rfl ?_
       refine XS.aload X586.here hx rfl (hb hby at_413) rfl rfl ?_
       refine XS.iload X586.here hx rfl (hb hby at_415) rfl ?_
       refine XS.bipush X586.here hx rfl (hb hby at_417) ?_
       exact kt)
      obtain ⟨_, T588, L588, X588, hQ588, st588⟩ := own_cS X586 hx hown544 hZ544 (oG hw 187 rfl) (oG hw 188 rfl) (oG hw 189 rfl) (oG hw 190 rfl) (by decide) (rmLt l Z a0 hw [] sgt ((((((x570_L20 + (1 : Int32)) + (1 : Int32)) + (1 : Int32)) + (1 : Int32)) + (1 : Int32)) + (1 : Int32)) (64 : Int32) yvt kyt zlt yst zC fv (64 : Int32) (own_t0 nn c0 c1 c2 ++ ((58 : Int32) :: (own_dl po ++ ((47 : Int32) :: (own_dl db ++ ([] : List Int32)))))) T544.heap n0 f545 f549 f550 f551 f552 f546 hz f547 hfv rd586 (show nar .char (own_ch (64 : Int32)) = (64 : Int32) from by decide)) (W := 0) (by decide) (by decide) (g := (mkF m 419 #[y0, y1, y2, y3, y4, iv x5_S0, iv x10_S0, y7, iv nn, iv c0, iv c1, iv c2, y12, y13, iv po, iv db, y16, y17, y18, rv sgt, iv ((((((x570_L20 + (1 : Int32)) + (1 : Int32)) + (1 : Int32)) + (1 : Int32)) + (1 : Int32)) + (1 : Int32))] [(.int (64 : Int32)), (.int ((((((x570_L20 + (1 : Int32)) + (1 : Int32)) + (1 : Int32)) + (1 : Int32)) + (1 : Int32)) + (1 : Int32))), (.ref sgt)])) rfl (by rw [hml]; rfl) (argsL := [(.ref sgt), (.int ((((((x570_L20 + (1 : Int32)) + (1 : Int32)) + (1 : Int32)) + (1 : Int32)) + (1 : Int32)) + (1 : Int32))), (.int (64 : Int32))]) (rest := []) (lenOf pd37 rfl) rfl (own_ww rfl) (hb hby at_419) e586 rfl (by decide) (by decide)
      obtain ⟨rfl, N588q, e588⟩ := hQ588
      have N588 := Fr.app N586 N588q
      have rd588 : own_rst yst zlt (((((((x570_L20 + (1 : Int32)) + (1 : Int32)) + (1 : Int32)) + (1 : Int32)) + (1 : Int32)) + (1 : Int32)) + (1 : Int32)) (own_t0 nn c0 c1 c2 ++ ((58 : Int32) :: (own_dl po ++ ((47 : Int32) :: (own_dl db ++ ([] : List Int32)))))) := own_rS rd586
      have pre589 : own_V p e below _ T588 (mkF m 424 #[y0, y1, y2, y3, y4, iv x5_S0, iv x10_S0, y7, iv nn, iv c0, iv c1, iv c2, y12, y13, iv po, iv db, y16, y17, y18, rv sgt, iv (((((((x570_L20 + (1 : Int32)) + (1 : Int32)) + (1 : Int32)) + (1 : Int32)) + (1 : Int32)) + (1 : Int32)) + (1 : Int32))] []) := fun t kt => pre587 t (by
       refine st588 _ ?_
       refine XS.istore X588.here hx rfl (hb hby at_422) rfl rfl ?_
       exact kt)
      exact ⟨T588, _, (((((((x570_L20 + (1 : Int32)) + (1 : Int32)) + (1 : Int32)) + (1 : Int32)) + (1 : Int32)) + (1 : Int32)) + (1 : Int32)), X588.more (by decide) (by decide), N588, e588, rd588, pre589⟩
  obtain ⟨T590, L590, x590_L20, X590, N590, e590, mp590_L20, pre590⟩ := Mg590
  have Mg597 : ∃ (T597 : State) (L597 : List Loc) (x597_L20 : Int32), Stand p l e room_1 (s.setVm vm544) m #[(.int p0), (.int p1), (.int p2), (.int p3), (.int p4)] below meth c T597 L597 34 439 ∧ Fr n0 L597 ∧ T597.heap = T544.heap ∧ own_rst yst zlt x597_L20 (own_t1 nn c1 c2 ++ ((58 : Int32) :: (own_dl po ++ ((47 : Int32) :: (own_dl db ++ ([] : List Int32)))))) ∧ own_V p e below (s₁.setTop (entryFrame m #[(.int p0), (.int p1), (.int p2), (.int p3), (.int p4)] maxLocals)) T597 (mkF m 441 #[y0, y1, y2, y3, y4, iv x5_S0, iv x10_S0, y7, iv nn, iv c0, iv c1, iv c2, y12, y13, iv po, iv db, y16, y17, y18, rv sgt, iv x597_L20] []) := by
    have pre592 : own_V p e below _ T590 (mkF m 427 #[y0, y1, y2, y3, y4, iv x5_S0, iv x10_S0, y7, iv nn, iv c0, iv c1, iv c2, y12, y13, iv po, iv db, y16, y17, y18, rv sgt, iv x590_L20] [(.int (1 : Int32)), (.int nn)]) := fun t kt => pre590 t (by
     refine XS.iload X590.here hx rfl (hb hby at_424) rfl ?_
     refine XS.iconst X590.here hx rfl (hb hby at_426) ?_
     exact kt)
    by_cases hc427_591 : nn < (1 : Int32)
    · have pre593 : own_V p e below _ T590 (mkF m 441 #[y0, y1, y2, y3, y4, iv x5_S0, iv x10_S0, y7, iv nn, iv c0, iv c1, iv c2, y12, y13, iv po, iv db, y16, y17, y18, rv sgt, iv x590_L20] []) := fun t kt => pre592 t (by
       refine XS.icmpYes X590.here hx rfl (pc0 := 427) (pc' := 441) rfl (hb hby at_427) rfl (tlt hc427_591).1 (by decide) (by decide) ?_
       exact kt)
      exact ⟨T590, _, x590_L20, X590.more (by decide) (by decide), N590, e590, (own_rQ mp590_L20 (own_t00 hc427_591)), pre593⟩
    · have pre594 : own_V p e below _ T590 (mkF m 436 #[y0, y1, y2, y3, y4, iv x5_S0, iv x10_S0, y7, iv nn, iv c0, iv c1, iv c2, y12, y13, iv po, iv db, y16, y17, y18, rv sgt, iv x590_L20] [(.int c0), (.int x590_L20), (.ref sgt)]) := fun t kt => pre592 t (by
       show Steps _ _ _ (T590.setTop (mkF m 427 #[y0, y1, y2, y3, y4, iv x5_S0, iv x10_S0, y7, iv nn, iv c0, iv c1, iv c2, y12, y13, iv po, iv db, y16, y17, y18, rv sgt, iv x590_L20] [(.int (1 : Int32)), (.int nn)])) _
       refine XS.icmpNo X590.here hx rfl (hb hby at_427) rfl (flt hc427_591).1 ?_
       refine XS.aload X590.here hx rfl (hb hby at_430) rfl rfl ?_
       refine XS.iload X590.here hx rfl (hb hby at_432) rfl ?_
       refine XS.iload X590.here hx rfl (hb hby at_434) rfl ?_
       exact kt)
      obtain ⟨_, T595, L595, X595, hQ595, st595⟩ := own_cS X590 hx hown544 hZ544 (oG hw 187 rfl) (oG hw 188 rfl) (oG hw 189 rfl) (oG hw 190 rfl) (by decide) (rmLt l Z a0 hw [] sgt x590_L20 c0 yvt kyt zlt yst zC fv (own_by c0) (own_t1 nn c1 c2 ++ ((58 : Int32) :: (own_dl po ++ ((47 : Int32) :: (own_dl db ++ ([] : List Int32)))))) T544.heap n0 f545 f549 f550 f551 f552 f546 hz f547 hfv (own_rQ mp590_L20 (own_t01 hc427_591)) (own_bc hc0)) (W := 0) (by decide) (by decide) (g := (mkF m 436 #[y0, y1, y2, y3, y4, iv x5_S0, iv x10_S0, y7, iv nn, iv c0, iv c1, iv c2, y12, y13, iv po, iv db, y16, y17, y18, rv sgt, iv x590_L20] [(.int c0), (.int x590_L20), (.ref sgt)])) rfl (by rw [hml]; rfl) (argsL := [(.ref sgt), (.int x590_L20), (.int c0)]) (rest := []) (lenOf pd37 rfl) rfl (own_ww rfl) (hb hby at_436) e590 rfl (by decide) (by decide)
      obtain ⟨rfl, N595q, e595⟩ := hQ595
      have N595 := Fr.app N590 N595q
      have rd595 : own_rst yst zlt (x590_L20 + (1 : Int32)) (own_t1 nn c1 c2 ++ ((58 : Int32) :: (own_dl po ++ ((47 : Int32) :: (own_dl db ++ ([] : List Int32)))))) := own_rS (own_rQ mp590_L20 (own_t01 hc427_591))
      have pre596 : own_V p e below _ T595 (mkF m 441 #[y0, y1, y2, y3, y4, iv x5_S0, iv x10_S0, y7, iv nn, iv c0, iv c1, iv c2, y12, y13, iv po, iv db, y16, y17, y18, rv sgt, iv (x590_L20 + (1 : Int32))] []) := fun t kt => pre594 t (by
       refine st595 _ ?_
       refine XS.istore X595.here hx rfl (hb hby at_439) rfl rfl ?_
       exact kt)
      exact ⟨T595, _, (x590_L20 + (1 : Int32)), X595.more (by decide) (by decide), N595, e595, rd595, pre596⟩
  obtain ⟨T597, L597, x597_L20, X597, N597, e597, mp597_L20, pre597⟩ := Mg597
  have Mg604 : ∃ (T604 : State) (L604 : List Loc) (x604_L20 : Int32), Stand p l e room_1 (s.setVm vm544) m #[(.int p0), (.int p1), (.int p2), (.int p3), (.int p4)] below meth c T604 L604 34 439 ∧ Fr n0 L604 ∧ T604.heap = T544.heap ∧ own_rst yst zlt x604_L20 (own_t2 nn c2 ++ ((58 : Int32) :: (own_dl po ++ ((47 : Int32) :: (own_dl db ++ ([] : List Int32)))))) ∧ own_V p e below (s₁.setTop (entryFrame m #[(.int p0), (.int p1), (.int p2), (.int p3), (.int p4)] maxLocals)) T604 (mkF m 458 #[y0, y1, y2, y3, y4, iv x5_S0, iv x10_S0, y7, iv nn, iv c0, iv c1, iv c2, y12, y13, iv po, iv db, y16, y17, y18, rv sgt, iv x604_L20] []) := by
    have pre599 : own_V p e below _ T597 (mkF m 444 #[y0, y1, y2, y3, y4, iv x5_S0, iv x10_S0, y7, iv nn, iv c0, iv c1, iv c2, y12, y13, iv po, iv db, y16, y17, y18, rv sgt, iv x597_L20] [(.int (2 : Int32)), (.int nn)]) := fun t kt => pre597 t (by
     refine XS.iload X597.here hx rfl (hb hby at_441) rfl ?_
     refine XS.iconst X597.here hx rfl (hb hby at_443) ?_
     exact kt)
    by_cases hc444_598 : nn < (2 : Int32)
    · have pre600 : own_V p e below _ T597 (mkF m 458 #[y0, y1, y2, y3, y4, iv x5_S0, iv x10_S0, y7, iv nn, iv c0, iv c1, iv c2, y12, y13, iv po, iv db, y16, y17, y18, rv sgt, iv x597_L20] []) := fun t kt => pre599 t (by
       refine XS.icmpYes X597.here hx rfl (pc0 := 444) (pc' := 458) rfl (hb hby at_444) rfl (tlt hc444_598).1 (by decide) (by decide) ?_
       exact kt)
      exact ⟨T597, _, x597_L20, X597.more (by decide) (by decide), N597, e597, (own_rQ mp597_L20 (own_t10 hc444_598)), pre600⟩
    · have pre601 : own_V p e below _ T597 (mkF m 453 #[y0, y1, y2, y3, y4, iv x5_S0, iv x10_S0, y7, iv nn, iv c0, iv c1, iv c2, y12, y13, iv po, iv db, y16, y17, y18, rv sgt, iv x597_L20] [(.int c1), (.int x597_L20), (.ref sgt)]) := fun t kt => pre599 t (by
       refine XS.icmpNo X597.here hx rfl (hb hby at_444) rfl (flt hc444_598).1 ?_
       refine XS.aload X597.here hx rfl (hb hby at_447) rfl rfl ?_
       refine XS.iload X597.here hx rfl (hb hby at_449) rfl ?_
       refine XS.iload X597.here hx rfl (hb hby at_451) rfl ?_
       exact kt)
      obtain ⟨_, T602, L602, X602, hQ602, st602⟩ := own_cS X597 hx hown544 hZ544 (oG hw 187 rfl) (oG hw 188 rfl) (oG hw 189 rfl) (oG hw 190 rfl) (by decide) (rmLt l Z a0 hw [] sgt x597_L20 c1 yvt kyt zlt yst zC fv (own_by c1) (own_t2 nn c2 ++ ((58 : Int32) :: (own_dl po ++ ((47 : Int32) :: (own_dl db ++ ([] : List Int32)))))) T544.heap n0 f545 f549 f550 f551 f552 f546 hz f547 hfv (own_rQ mp597_L20 (own_t11 hc444_598)) (own_bc hc1)) (W := 0) (by decide) (by decide) (g := (mkF m 453 #[y0, y1, y2, y3, y4, iv x5_S0, iv x10_S0, y7, iv nn, iv c0, iv c1, iv c2, y12, y13, iv po, iv db, y16, y17, y18, rv sgt, iv x597_L20] [(.int c1), (.int x597_L20), (.ref sgt)])) rfl (by rw [hml]; rfl) (argsL := [(.ref sgt), (.int x597_L20), (.int c1)]) (rest := []) (lenOf pd37 rfl) rfl (own_ww rfl) (hb hby at_453) e597 rfl (by decide) (by decide)
      obtain ⟨rfl, N602q, e602⟩ := hQ602
      have N602 := Fr.app N597 N602q
      have rd602 : own_rst yst zlt (x597_L20 + (1 : Int32)) (own_t2 nn c2 ++ ((58 : Int32) :: (own_dl po ++ ((47 : Int32) :: (own_dl db ++ ([] : List Int32)))))) := own_rS (own_rQ mp597_L20 (own_t11 hc444_598))
      have pre603 : own_V p e below _ T602 (mkF m 458 #[y0, y1, y2, y3, y4, iv x5_S0, iv x10_S0, y7, iv nn, iv c0, iv c1, iv c2, y12, y13, iv po, iv db, y16, y17, y18, rv sgt, iv (x597_L20 + (1 : Int32))] []) := fun t kt => pre601 t (by
       refine st602 _ ?_
       refine XS.istore X602.here hx rfl (hb hby at_456) rfl rfl ?_
       exact kt)
      exact ⟨T602, _, (x597_L20 + (1 : Int32)), X602.more (by decide) (by decide), N602, e602, rd602, pre603⟩
  obtain ⟨T604, L604, x604_L20, X604, N604, e604, mp604_L20, pre604⟩ := Mg604
  have Mg611 : ∃ (T611 : State) (L611 : List Loc) (x611_L20 : Int32), Stand p l e room_1 (s.setVm vm544) m #[(.int p0), (.int p1), (.int p2), (.int p3), (.int p4)] below meth c T611 L611 34 439 ∧ Fr n0 L611 ∧ T611.heap = T544.heap ∧ own_rst yst zlt x611_L20 ((58 : Int32) :: (own_dl po ++ ((47 : Int32) :: (own_dl db ++ ([] : List Int32))))) ∧ own_V p e below (s₁.setTop (entryFrame m #[(.int p0), (.int p1), (.int p2), (.int p3), (.int p4)] maxLocals)) T611 (mkF m 475 #[y0, y1, y2, y3, y4, iv x5_S0, iv x10_S0, y7, iv nn, iv c0, iv c1, iv c2, y12, y13, iv po, iv db, y16, y17, y18, rv sgt, iv x611_L20] []) := by
    have pre606 : own_V p e below _ T604 (mkF m 461 #[y0, y1, y2, y3, y4, iv x5_S0, iv x10_S0, y7, iv nn, iv c0, iv c1, iv c2, y12, y13, iv po, iv db, y16, y17, y18, rv sgt, iv x604_L20] [(.int (3 : Int32)), (.int nn)]) := fun t kt => pre604 t (by
     refine XS.iload X604.here hx rfl (hb hby at_458) rfl ?_
     refine XS.iconst X604.here hx rfl (hb hby at_460) ?_
     exact kt)
    by_cases hc461_605 : nn < (3 : Int32)
    · have pre607 : own_V p e below _ T604 (mkF m 475 #[y0, y1, y2, y3, y4, iv x5_S0, iv x10_S0, y7, iv nn, iv c0, iv c1, iv c2, y12, y13, iv po, iv db, y16, y17, y18, rv sgt, iv x604_L20] []) := fun t kt => pre606 t (by
       refine XS.icmpYes X604.here hx rfl (pc0 := 461) (pc' := 475) rfl (hb hby at_461) rfl (tlt hc461_605).1 (by decide) (by decide) ?_
       exact kt)
      exact ⟨T604, _, x604_L20, X604.more (by decide) (by decide), N604, e604, (own_rQ mp604_L20 (own_t20 hc461_605)), pre607⟩
    · have pre608 : own_V p e below _ T604 (mkF m 470 #[y0, y1, y2, y3, y4, iv x5_S0, iv x10_S0, y7, iv nn, iv c0, iv c1, iv c2, y12, y13, iv po, iv db, y16, y17, y18, rv sgt, iv x604_L20] [(.int c2), (.int x604_L20), (.ref sgt)]) := fun t kt => pre606 t (by
       refine XS.icmpNo X604.here hx rfl (hb hby at_461) rfl (flt hc461_605).1 ?_
       refine XS.aload X604.here hx rfl (hb hby at_464) rfl rfl ?_
       refine XS.iload X604.here hx rfl (hb hby at_466) rfl ?_
       refine XS.iload X604.here hx rfl (hb hby at_468) rfl ?_
       exact kt)
      obtain ⟨_, T609, L609, X609, hQ609, st609⟩ := own_cS X604 hx hown544 hZ544 (oG hw 187 rfl) (oG hw 188 rfl) (oG hw 189 rfl) (oG hw 190 rfl) (by decide) (rmLt l Z a0 hw [] sgt x604_L20 c2 yvt kyt zlt yst zC fv (own_by c2) ((58 : Int32) :: (own_dl po ++ ((47 : Int32) :: (own_dl db ++ ([] : List Int32))))) T544.heap n0 f545 f549 f550 f551 f552 f546 hz f547 hfv (own_rQ mp604_L20 (own_t21 hc461_605)) (own_bc hc2)) (W := 0) (by decide) (by decide) (g := (mkF m 470 #[y0, y1, y2, y3, y4, iv x5_S0, iv x10_S0, y7, iv nn, iv c0, iv c1, iv c2, y12, y13, iv po, iv db, y16, y17, y18, rv sgt, iv x604_L20] [(.int c2), (.int x604_L20), (.ref sgt)])) rfl (by rw [hml]; rfl) (argsL := [(.ref sgt), (.int x604_L20), (.int c2)]) (rest := []) (lenOf pd37 rfl) rfl (own_ww rfl) (hb hby at_470) e604 rfl (by decide) (by decide)
      obtain ⟨rfl, N609q, e609⟩ := hQ609
      have N609 := Fr.app N604 N609q
      have rd609 : own_rst yst zlt (x604_L20 + (1 : Int32)) ((58 : Int32) :: (own_dl po ++ ((47 : Int32) :: (own_dl db ++ ([] : List Int32))))) := own_rS (own_rQ mp604_L20 (own_t21 hc461_605))
      have pre610 : own_V p e below _ T609 (mkF m 475 #[y0, y1, y2, y3, y4, iv x5_S0, iv x10_S0, y7, iv nn, iv c0, iv c1, iv c2, y12, y13, iv po, iv db, y16, y17, y18, rv sgt, iv (x604_L20 + (1 : Int32))] []) := fun t kt => pre608 t (by
       refine st609 _ ?_
       refine XS.istore X609.here hx rfl (hb hby at_473) rfl rfl ?_
       exact kt)
      exact ⟨T609, _, (x604_L20 + (1 : Int32)), X609.more (by decide) (by decide), N609, e609, rd609, pre610⟩
  obtain ⟨T611, L611, x611_L20, X611, N611, e611, mp611_L20, pre611⟩ := Mg611
  have pre612 : own_V p e below _ T611 (mkF m 481 #[y0, y1, y2, y3, y4, iv x5_S0, iv x10_S0, y7, iv nn, iv c0, iv c1, iv c2, y12, y13, iv po, iv db, y16, y17, y18, rv sgt, iv x611_L20] [(.int (58 : Int32)), (.int x611_L20), (.ref sgt)]) := fun t kt => pre611 t (by
   refine XS.aload X611.here hx rfl (hb hby at_475) rfl rfl ?_
   refine XS.iload X611.here hx rfl (hb hby at_477) rfl ?_
   refine XS.bipush X611.here hx rfl (hb hby at_479) ?_
   exact kt)
  obtain ⟨_, T613, L613, X613, hQ613, st613⟩ := own_cS X611 hx hown544 hZ544 (oG hw 187 rfl) (oG hw 188 rfl) (oG hw 189 rfl) (oG hw 190 rfl) (by decide) (rmLt l Z a0 hw [] sgt x611_L20 (58 : Int32) yvt kyt zlt yst zC fv (58 : Int32) (own_dl po ++ ((47 : Int32) :: (own_dl db ++ ([] : List Int32)))) T544.heap n0 f545 f549 f550 f551 f552 f546 hz f547 hfv mp611_L20 (show nar .char (own_ch (58 : Int32)) = (58 : Int32) from by decide)) (W := 0) (by decide) (by decide) (g := (mkF m 481 #[y0, y1, y2, y3, y4, iv x5_S0, iv x10_S0, y7, iv nn, iv c0, iv c1, iv c2, y12, y13, iv po, iv db, y16, y17, y18, rv sgt, iv x611_L20] [(.int (58 : Int32)), (.int x611_L20), (.ref sgt)])) rfl (by rw [hml]; rfl) (argsL := [(.ref sgt), (.int x611_L20), (.int (58 : Int32))]) (rest := []) (lenOf pd37 rfl) rfl (own_ww rfl) (hb hby at_481) e611 rfl (by decide) (by decide)
  obtain ⟨rfl, N613q, e613⟩ := hQ613
  have N613 := Fr.app N611 N613q
  have rd613 : own_rst yst zlt (x611_L20 + (1 : Int32)) (own_dl po ++ ((47 : Int32) :: (own_dl db ++ ([] : List Int32)))) := own_rS mp611_L20
  have pre614 : own_V p e below _ T613 (mkF m 492 #[y0, y1, y2, y3, y4, iv x5_S0, iv x10_S0, y7, iv nn, iv c0, iv c1, iv c2, y12, y13, iv po, iv db, y16, y17, y18, rv sgt, iv (x611_L20 + (1 : Int32))] [(.int po), (.int (x611_L20 + (1 : Int32))), (.ref sgt)]) := fun t kt => pre612 t (by
   refine st613 _ ?_
   show Steps _ _ _ (T613.setTop (mkF m 484 #[y0, y1, y2, y3, y4, iv x5_S0, iv x10_S0, y7, iv nn, iv c0, iv c1, iv c2, y12, y13, iv po, iv db, y16, y17, y18, rv sgt, iv x611_L20] [(.int (x611_L20 + (1 : Int32)))])) _
   refine XS.istore X613.here hx rfl (hb hby at_484) rfl rfl ?_
   refine XS.aload X613.here hx rfl (hb hby at_486) rfl rfl ?_
   refine XS.iload X613.here hx rfl (hb hby at_488) rfl ?_
   refine XS.iload X613.here hx rfl (hb hby at_490) rfl ?_
   exact kt)
  obtain ⟨_, T615, L615, X615, hQ615, st615⟩ := own_cS X613 hx hown544 hZ544 (oG hw 214 rfl) (oG hw 215 rfl) (oG hw 189 rfl) (oG hw 216 rfl) (by decide) (rmNu l Z a0 hw [] sgt (x611_L20 + (1 : Int32)) po yvt kyt zlt yst zC fv ((47 : Int32) :: (own_dl db ++ ([] : List Int32))) T544.heap n0 f545 f549 f550 f551 f552 f546 hz f547 hfv rd613 hpo.1) (W := 0) (by decide) (by decide) (g := (mkF m 492 #[y0, y1, y2, y3, y4, iv x5_S0, iv x10_S0, y7, iv nn, iv c0, iv c1, iv c2, y12, y13, iv po, iv db, y16, y17, y18, rv sgt, iv (x611_L20 + (1 : Int32))] [(.int po), (.int (x611_L20 + (1 : Int32))), (.ref sgt)])) rfl (by rw [hml]; rfl) (argsL := [(.ref sgt), (.int (x611_L20 + (1 : Int32))), (.int po)]) (rest := []) (lenOf pd38 rfl) rfl (own_ww rfl) (hb hby at_492) e613 rfl (by decide) (by decide)
  obtain ⟨rfl, N615q, K615⟩ := hQ615
  have KK615 : Keep h0 T615.heap [] := Keep.trans K544 K615 all0
  have CH616 : CHr Z own_EL s.vm h0 vm544 T615.heap := CH544.trans (CHr.keep K615 sf0 CH544.1)
  have N615 := Fr.app N613 N615q
  have rd615 : own_rst yst zlt ((x611_L20 + (1 : Int32)) + (own_ni po)) ((47 : Int32) :: (own_dl db ++ ([] : List Int32))) := own_rN rd613
  have pre617 : own_V p e below _ T615 (mkF m 503 #[y0, y1, y2, y3, y4, iv x5_S0, iv x10_S0, y7, iv nn, iv c0, iv c1, iv c2, y12, y13, iv po, iv db, y16, y17, y18, rv sgt, iv ((x611_L20 + (1 : Int32)) + (own_ni po))] [(.int (47 : Int32)), (.int ((x611_L20 + (1 : Int32)) + (own_ni po))), (.ref sgt)]) := fun t kt => pre614 t (by
   refine st615 _ ?_
   refine XS.istore X615.here hx rfl (hb hby at_495) rfl rfl ?_
   refine XS.aload X615.here hx rfl (hb hby at_497) rfl rfl ?_
   refine XS.iload X615.here hx rfl (hb hby at_499) rfl ?_
   refine XS.bipush X615.here hx rfl (hb hby at_501) ?_
   exact kt)
  have f618 := (f549.keep K615)
  have f619 := (f550.keep K615 nin0)
  have f620 := (f551.keep K615 nin0)
  have f621 := (f552.keep K615 nin0)
  have f622 := (own_staKeep f546 K615 ns0)
  have f623 := (own_staKeep f547 K615 ns0)
  have f624 := (Nat.le_trans f545 K615.1)
  obtain ⟨_, T625, L625, X625, hQ625, st625⟩ := own_cS X615 hx hown544 hZ544 (oG hw 187 rfl) (oG hw 188 rfl) (oG hw 189 rfl) (oG hw 190 rfl) (by decide) (rmLt l Z a0 hw [] sgt ((x611_L20 + (1 : Int32)) + (own_ni po)) (47 : Int32) yvt kyt zlt yst zC fv (47 : Int32) (own_dl db ++ ([] : List Int32)) T615.heap n0 f624 f618 f619 f620 f621 f622 hz f623 hfv rd615 (show nar .char (own_ch (47 : Int32)) = (47 : Int32) from by decide)) (W := 0) (by decide) (by decide) (g := (mkF m 503 #[y0, y1, y2, y3, y4, iv x5_S0, iv x10_S0, y7, iv nn, iv c0, iv c1, iv c2, y12, y13, iv po, iv db, y16, y17, y18, rv sgt, iv ((x611_L20 + (1 : Int32)) + (own_ni po))] [(.int (47 : Int32)), (.int ((x611_L20 + (1 : Int32)) + (own_ni po))), (.ref sgt)])) rfl (by rw [hml]; rfl) (argsL := [(.ref sgt), (.int ((x611_L20 + (1 : Int32)) + (own_ni po))), (.int (47 : Int32))]) (rest := []) (lenOf pd37 rfl) rfl (own_ww rfl) (hb hby at_503) rfl rfl (by decide) (by decide)
  obtain ⟨rfl, N625q, e625⟩ := hQ625
  have N625 := Fr.app N615 N625q
  have rd625 : own_rst yst zlt (((x611_L20 + (1 : Int32)) + (own_ni po)) + (1 : Int32)) (own_dl db ++ ([] : List Int32)) := own_rS rd615
  have pre626 : own_V p e below _ T625 (mkF m 514 #[y0, y1, y2, y3, y4, iv x5_S0, iv x10_S0, y7, iv nn, iv c0, iv c1, iv c2, y12, y13, iv po, iv db, y16, y17, y18, rv sgt, iv (((x611_L20 + (1 : Int32)) + (own_ni po)) + (1 : Int32))] [(.int db), (.int (((x611_L20 + (1 : Int32)) + (own_ni po)) + (1 : Int32))), (.ref sgt)]) := fun t kt => pre617 t (by
   refine st625 _ ?_
   refine XS.istore X625.here hx rfl (hb hby at_506) rfl rfl ?_
   refine XS.aload X625.here hx rfl (hb hby at_508) rfl rfl ?_
   refine XS.iload X625.here hx rfl (hb hby at_510) rfl ?_
   refine XS.iload X625.here hx rfl (hb hby at_512) rfl ?_
   exact kt)
  obtain ⟨_, T627, L627, X627, hQ627, st627⟩ := own_cS X625 hx hown544 hZ544 (oG hw 214 rfl) (oG hw 215 rfl) (oG hw 189 rfl) (oG hw 216 rfl) (by decide) (rmNu l Z a0 hw [] sgt (((x611_L20 + (1 : Int32)) + (own_ni po)) + (1 : Int32)) db yvt kyt zlt yst zC fv ([] : List Int32) T615.heap n0 f624 f618 f619 f620 f621 f622 hz f623 hfv rd625 hdb) (W := 0) (by decide) (by decide) (g := (mkF m 514 #[y0, y1, y2, y3, y4, iv x5_S0, iv x10_S0, y7, iv nn, iv c0, iv c1, iv c2, y12, y13, iv po, iv db, y16, y17, y18, rv sgt, iv (((x611_L20 + (1 : Int32)) + (own_ni po)) + (1 : Int32))] [(.int db), (.int (((x611_L20 + (1 : Int32)) + (own_ni po)) + (1 : Int32))), (.ref sgt)])) rfl (by rw [hml]; rfl) (argsL := [(.ref sgt), (.int (((x611_L20 + (1 : Int32)) + (own_ni po)) + (1 : Int32))), (.int db)]) (rest := []) (lenOf pd38 rfl) rfl (own_ww rfl) (hb hby at_514) e625 rfl (by decide) (by decide)
  obtain ⟨rfl, N627q, K627⟩ := hQ627
  have KK627 : Keep h0 T627.heap [] := Keep.trans KK615 K627 all0
  have CH628 : CHr Z own_EL s.vm h0 vm544 T627.heap := CH616.trans (CHr.keep K627 sf0 CH616.1)
  have N627 := Fr.app N625 N627q
  have rd627 : own_rst yst zlt ((((x611_L20 + (1 : Int32)) + (own_ni po)) + (1 : Int32)) + (own_ni db)) ([] : List Int32) := own_rN rd625
  have pre629 : own_V p e below _ T627 (mkF m 523 #[y0, y1, y2, y3, y4, iv x5_S0, iv x10_S0, y7, iv nn, iv c0, iv c1, iv c2, y12, y13, iv po, iv db, y16, y17, y18, rv sgt, iv ((((x611_L20 + (1 : Int32)) + (own_ni po)) + (1 : Int32)) + (own_ni db))] [(.ref sgt), (.int ((((x611_L20 + (1 : Int32)) + (own_ni po)) + (1 : Int32)) + (own_ni db)))]) := fun t kt => pre626 t (by
   refine st627 _ ?_
   refine XS.istore X627.here hx rfl (hb hby at_517) rfl rfl ?_
   refine XS.iload X627.here hx rfl (hb hby at_519) rfl ?_
   refine XS.aload X627.here hx rfl (hb hby at_521) rfl rfl ?_
   exact kt)
  have f630 := (f618.keep K627)
  have f631 := (f619.keep K627 nin0)
  have f632 := (f620.keep K627 nin0)
  have f633 := (f621.keep K627 nin0)
  have f634 := (own_staKeep f622 K627 ns0)
  have f635 := (Nat.le_trans f624 K627.1)
  obtain ⟨_, T636, L636, X636, hQ636, st636⟩ := own_cV X627 hx hown544 hZ544 (oG hw 191 rfl) (oG hw 84 rfl) (oG hw 86 rfl) (oG hw 85 rfl) (oG hw 3 rfl) (oG hw 87 rfl) (by decide) (rmLe l Z a0 hw [] sgt yvt kyt zlt yst zC T627.heap n0 f635 f630 f631 f632 f633 f634 hz) (W := 1) (by decide) (by decide) f630 (g := (mkF m 523 #[y0, y1, y2, y3, y4, iv x5_S0, iv x10_S0, y7, iv nn, iv c0, iv c1, iv c2, y12, y13, iv po, iv db, y16, y17, y18, rv sgt, iv ((((x611_L20 + (1 : Int32)) + (own_ni po)) + (1 : Int32)) + (own_ni db))] [(.ref sgt), (.int ((((x611_L20 + (1 : Int32)) + (own_ni po)) + (1 : Int32)) + (own_ni db)))])) rfl (by rw [hml]; rfl) (argsL := []) (rest := [(.int ((((x611_L20 + (1 : Int32)) + (own_ni po)) + (1 : Int32)) + (own_ni db)))]) (lenOf pd8 rfl) rfl (own_ww rfl) (hb hby at_523) rfl rfl (by decide) (by decide)
  obtain ⟨rfl, N636q, e636⟩ := hQ636
  have N636 := Fr.app N627 N636q
  obtain ⟨fs, hr, hrun, hended, hW, hsame⟩ := X636.leave (v := some (.int (1 : Int32))) (fun h => by rw [Bd.returns] at h; cases h)
  have f637 := (Nat.le_trans (Nat.le_trans f548 K615.1) K627.1)
  have qE := hS544.ended (c := room_1.cells) (k := room_1.slots) hW (show _ ≤ T636.heap.size from (by rw [e636]; exact f637)) (hsame.mono (by decide) (by decide))
  refine ⟨_, _, pre629 _ ?_, hrun, hended, _, _, rfl, ?_, ⟨_, rfl⟩, qE.1, qE.2.1, qE.2.2⟩
  · refine st636 _ ?_
    refine XS.icmpNo X636.here hx rfl (hb hby at_526) rfl (teq (own_rE rd627)).2 ?_
    refine XS.iconst X636.here hx rfl (hb hby at_529) ?_
    refine XS.goto X636.here hx rfl (pc0 := 530) (pc' := 534) rfl (hb hby at_530) (by decide) (by decide) ?_
    show Steps _ _ _ (T636.setTop (mkF m 534 #[y0, y1, y2, y3, y4, iv x5_S0, iv x10_S0, y7, iv nn, iv c0, iv c1, iv c2, y12, y13, iv po, iv db, y16, y17, y18, rv sgt, iv ((((x611_L20 + (1 : Int32)) + (own_ni po)) + (1 : Int32)) + (own_ni db))] [(.int (1 : Int32))])) _
    exact retN X636 hx (t := .boolean) Bd.returns (by simp) (hb hby at_534) hr
  · show own_Q0 n0 _ T636.heap _
    rw [e636]
    exact ⟨rfl, N636⟩

set_option maxRecDepth 65536 in
set_option maxHeartbeats 40000000 in
theorem comes_1 {Post : Tables → Env → Array Value → State → Outcome → State → Prop} (hpost : ∀ tb e args s v u, (limb_1_1.after args s (.returned v) u = true ∧ limb_1_2.after args s (.returned v) u = true ∧ True) → ReturnedEndW s (.returned v) u (Jvm.fieldLocs frame_1_writes args s ++ Jvm.arrayLocs frame_1_arrays args s ++ Jvm.staticLocs frame_1_statics s) 56 8576 → Post tb e args s (.returned v) u) :
    ArmFor flags0 classFile x code maxLocals ret World_1 tables_1 room_1 Calls_1 rest_1 Pre_1 Post := by
  intro l hfl _ _ p e ha hc hk s m args below hf hA hF happ hP
  obtain ⟨hcalls, hrest, hpre⟩ := hP
  obtain ⟨-, -, -, hnamed, -, -, -, hat⟩ := (Spec.applies_iff hf).mp happ
  obtain ⟨hg, hn⟩ := and_e (Cond.before_iff.mp (show (Jvm.Cond.and given_1 narrow_1).before args s = true from hpre))
  obtain ⟨g0, gr1⟩ := and_e hg
  obtain ⟨g1, gr2⟩ := and_e gr1
  obtain ⟨g2, gr3⟩ := and_e gr2
  obtain ⟨g3, gr4⟩ := and_e gr3
  obtain ⟨g4, g5⟩ := and_e gr4
  have k0 := hn
  obtain ⟨w0, w1, w2, w3, w4, rfl⟩ : ∃ w0 w1 w2 w3 w4 : Value, args = #[w0, w1, w2, w3, w4] := by
    have hs : args.size = 5 := by simpa [Cond.value, given_1] using g0
    obtain ⟨L⟩ := args
    match L, hs with
    | [w0, w1, w2, w3, w4], _ => exact ⟨w0, w1, w2, w3, w4, rfl⟩
  have hw := fun d (hd : d ∈ tables_1) => atoms_spec (ws := Jvm.Cond.code x code maxLocals ret :: tables_1) hat d (List.mem_cons_of_mem _ hd)
  have hfit : Fit s := fun {y c} hc i hi => by
    obtain ⟨ha, rfl⟩ := Array.getElem?_eq_some_iff.mp hc
    have q := List.all_eq_true.mp ((Array.all_eq_true_iff_forall_mem.mp hF) _ (Array.getElem_mem ha)) i (List.mem_range.mpr hi)
    simpa [Array.getElem?_eq_getElem hi] using q
  obtain ⟨hsets, hown0⟩ := atoms_of _ (rest_1_c_eq ▸ (show rest_1_c.before _ s = true from hrest))
  have hr0 := Cond.before_iff.mp hown0
  obtain ⟨i0, ei0⟩ := is_v g1
  obtain rfl : w0 = (.int i0) := Option.some.inj ei0
  obtain ⟨i1, ei1⟩ := is_v g2
  obtain rfl : w1 = (.int i1) := Option.some.inj ei1
  obtain ⟨i2, ei2⟩ := is_v g3
  obtain rfl : w2 = (.int i2) := Option.some.inj ei2
  obtain ⟨i3, ei3⟩ := is_v g4
  obtain rfl : w3 = (.int i3) := Option.some.inj ei3
  obtain ⟨i4, ei4⟩ := is_v g5
  obtain rfl : w4 = (.int i4) := Option.some.inj ei4
  obtain ⟨zC, eC⟩ := is_v (Cond.before_iff.mp (hsets _ (List.mem_of_getElem? (i := 1) rfl)))
  have SC : Sta s s.heap "java/lang/String" "COMPACT_STRINGS" "Z" (.int zC) := Sta.start eC (Or.inl (hsets _ (List.mem_of_getElem? (i := 0) rfl)))
  have hz : ¬ (zC = (0 : Int32)) := gotF (Cond.eq_ints eC (Term.int_eval _)) (not_v (Cond.before_iff.mp (hsets _ (List.mem_of_getElem? (i := 2) rfl))))
  obtain ⟨fv, eF, hf_⟩ := isR_v (Cond.before_iff.mp (hsets _ (List.mem_of_getElem? (i := 8) rfl)))
  have hfv := ref_cases hf_
  obtain ⟨dO, clO, eO, AO, sO⟩ := own_tbl (Cond.before_iff.mp (hsets _ (List.mem_of_getElem? (i := 12) rfl))) (own_eqI (Cond.before_iff.mp (hsets _ (List.mem_of_getElem? (i := 13) rfl)))) (oG hw 15 rfl)
  obtain ⟨dT, clT, eD, AT, sT⟩ := own_tbl (Cond.before_iff.mp (hsets _ (List.mem_of_getElem? (i := 17) rfl))) (own_eqI (Cond.before_iff.mp (hsets _ (List.mem_of_getElem? (i := 18) rfl)))) (oG hw 15 rfl)
  obtain ⟨n, o, h1, h2, h3, _, L, rfl, ⟨rfl, N⟩, hq⟩ := rm0 l s _ hw tables_1 i0 i1 i2 i3 i4 zC fv dO clO.cls clO.slots.toList dT clT.cls clT.slots.toList s.heap s.heap.size (Nat.le_refl _) SC hz (Sta.start eF (Or.inl (hsets _ (List.mem_of_getElem? (i := 7) rfl)))) hfv (Sta.start eO (Or.inl (hsets _ (List.mem_of_getElem? (i := 11) rfl)))) (Sta.start eD (Or.inl (hsets _ (List.mem_of_getElem? (i := 16) rfl)))) (own_startD hfit AO sO) (own_startD hfit AT sT) (own_doS (own_sti eO) AO sO (Cond.before_iff.mp (hsets _ (List.mem_of_getElem? (i := 14) rfl)))) (own_dtS (own_sti eD) AT sT (Cond.before_iff.mp (hsets _ (List.mem_of_getElem? (i := 19) rfl)))) p e ha hc hk s m _ below hf ((Spec.applies_iff_loose hf).mp happ).1 ⟨rfl, State.Warmed39.refl s, rfl, CHv.start (own_hEL hw) (fun p hp => hcalls.1 p hp) (hsets _ (List.mem_of_getElem? (i := 2) rfl)) (oG hw 15 rfl) (oG hw 2 rfl)⟩ trivial
  refine ⟨n, _, h1, h2, h3, hpost _ _ _ _ _ _ ⟨Cond.after_iff.mpr rfl, Cond.after_iff.mpr (eq_i res_at (Term.int_eval (1)) rfl), trivial⟩ ⟨hq.1, hq.2.1, hq.2.2.1, (hq.2.2.2.sift fun y hy => Or.inr (N y hy)).mono (by decide) (by decide)⟩⟩
theorem main_1_1 : Claimed_1_1 := comes_1 fun _ _ _ _ _ _ h hF => ⟨h.1, hF⟩
theorem main_1_2 : Claimed_1_2 := comes_1 fun _ _ _ _ _ _ h hF => ⟨h.2.1, hF⟩
end Jvm.Pilot.@@N@@
namespace Jvm.Pilot.@@N@@
open Jvm Jvm.ClassFile Sem Op Lib Jvm.Free Jvm.Stand Jvm.Pilot.@@N@@.Jvm.D
/-! MADE BY PROGRAM (witnessworld.py) out of the Statement's table words and the real class files: 31 classes; the members and pool entries that the words name. The judged class is class 1, her method 4. -/
namespace start1
open Jvm.ClassFile
def u (s : String) : CpInfo := .utf8 (stringToUtf16 s)
/-- a pool by its gaps: so many unusable entries, then the entry; so many at the end -/
def gap : Nat → List CpInfo → List CpInfo
  | 0, r => r
  | n + 1, r => .unusable :: gap n r
def poolList (es : List (Nat × CpInfo)) (last : Nat) : List CpInfo := es.foldr (fun e r => gap e.1 (e.2 :: r)) (gap last [])
def pool (es : List (Nat × CpInfo)) (last : Nat) : Array CpInfo := ⟨poolList es last⟩
def fileOf (pool : Array CpInfo) (this : Nat) (attrs : Array Attribute := #[]) (ms : Array MethodInfo := #[]) (fl : Nat := 33) (sup : Nat := 0) (ifs : Array Nat := #[]) (fds : Array FieldInfo := #[]) : ClassFile where
  minorVersion := 0
  majorVersion := 65
  constantPool := pool
  accessFlags := fl
  thisClass := this
  superClass := sup
  interfaces := ifs
  fields := fds
  methods := ms
  attributes := attrs
def plain (name : String) (sup : Option ClassId) : Class where
  name := name
  kind := .ordinary
  loader := none
  accessFlags := 33
  super := sup
  interfaces := #[]
  cf := none
  fields := #[]
  methods := #[]
  instanceTypes := #[]
  staticTypes := #[]
  resolved := #[]
  callSites := []
  init := .initialized
  statics := none
  mirror := none

def pool0 : Array CpInfo := pool [(5, u "<init>"), (0, u "()V"), (1, .class_ 10), (1, u "java/lang/Object"), (85, u "clone"), (0, u "()Ljava/lang/Object;")] 26

def k0c0 : Code := { maxStack := 0, maxLocals := 1, code := object_method_1_code, exceptionTable := #[], attributes := #[] }
def k0m0 : Method := { name := "<init>", desc := "()V", sig := { parameters := [], returnType := none }, accessFlags := 1, code := some k0c0 }
def k0m1 : Method := { name := "clone", desc := "()Ljava/lang/Object;", sig := { parameters := [], returnType := some (.object "java/lang/Object") }, accessFlags := 260, code := none }
/-- java/lang/Object -/
def k0 : Class := { plain "java/lang/Object" none with
  accessFlags := 33
  interfaces := #[]
  cf := some (fileOf pool0 8 #[] #[{ accessFlags := 1, nameIndex := 5, descriptorIndex := 6, attributes := #[] }, { accessFlags := 260, nameIndex := 96, descriptorIndex := 97, attributes := #[] }] 33 0 #[] #[])
  fields := #[]
  methods := #[k0m0, k0m1]
  instanceTypes := #[]
  staticTypes := #[]
  resolved := Array.replicate 124 none
  statics := none }

def pool1 : Array CpInfo := pool [(2, .class_ 4), (1, u "java/lang/Object"), (0, u "<init>"), (0, u "()V"), (0, .methodref 8 9), (0, .class_ 10), (0, .nameAndType 11 12), (0, u "java/lang/String"), (0, u "length"), (0, u "()I"), (0, .methodref 8 14), (0, .nameAndType 15 16), (0, u "charAt"), (0, u "(I)C"), (0, .long 10), (1, .long 48), (1, .long 100), (1, .long 1000), (1, .long 10000), (1, .long 100000), (1, .long 1000000), (1, .long 10000000), (1, .long 100000000), (1, .long 1000000000), (1, .integer 100000), (0, .integer 1000000), (0, .integer 10000000), (0, .integer 100000000), (0, .integer 1000000000), (0, .methodref 43 44), (0, .class_ 45), (0, .nameAndType 46 47), (0, u "com/example/fastpath/fastpath/settings/RedisServerToStringPinLaw"), (0, u "dig"), (0, u "(Ljava/lang/String;IIII[J)Z"), (0, .methodref 8 49), (0, .nameAndType 5 50), (0, u "([C)V"), (0, .integer 2147483647), (0, .integer 65535), (0, .methodref 8 54), (0, .nameAndType 55 56), (0, u "valueOf"), (0, u "(C)Ljava/lang/String;"), (0, .class_ 58), (0, u "com/example/fastpath/fastpath/settings/RedisServer"), (0, .methodref 57 60), (0, .nameAndType 5 61), (0, u "(ZLjava/lang/String;ILjava/lang/String;Ljava/lang/String;I)V"), (0, .methodref 57 63), (0, .nameAndType 64 65), (0, u "toString"), (0, u "()Ljava/lang/String;"), (0, .methodref 43 67), (0, .nameAndType 68 69), (0, u "lit"), (0, u "(Ljava/lang/String;IC)I"), (0, .methodref 43 71), (0, .nameAndType 72 73), (0, u "num"), (0, u "(Ljava/lang/String;II)I"), (5, u "law"), (0, u "(IIIII)Z")] 4

def k1m0 : Method := { name := "<init>", desc := "()V", sig := { parameters := [], returnType := none }, accessFlags := 1, code := none }
def k1c1 : Code := { maxStack := 2, maxLocals := 3, code := method_2_code, exceptionTable := #[], attributes := #[] }
def k1m1 : Method := { name := "lit", desc := "(Ljava/lang/String;IC)I", sig := { parameters := [(.object "java/lang/String"), .int, .char], returnType := some .int }, accessFlags := 10, code := some k1c1 }
def k1c2 : Code := { maxStack := 5, maxLocals := 9, code := method_3_code, exceptionTable := #[], attributes := #[] }
def k1m2 : Method := { name := "dig", desc := "(Ljava/lang/String;IIII[J)Z", sig := { parameters := [(.object "java/lang/String"), .int, .int, .int, .int, (.array .long)], returnType := some .boolean }, accessFlags := 10, code := some k1c2 }
def k1c3 : Code := { maxStack := 6, maxLocals := 5, code := method_4_code, exceptionTable := #[], attributes := #[] }
def k1m3 : Method := { name := "num", desc := "(Ljava/lang/String;II)I", sig := { parameters := [(.object "java/lang/String"), .int, .int], returnType := some .int }, accessFlags := 10, code := some k1c3 }
def k1c4 : Code := { maxStack := 8, maxLocals := 21, code := code, exceptionTable := #[], attributes := #[] }
def k1m4 : Method := { name := "law", desc := "(IIIII)Z", sig := { parameters := [.int, .int, .int, .int, .int], returnType := some .boolean }, accessFlags := 9, code := some k1c4 }
/-- com/example/fastpath/fastpath/settings/RedisServerToStringPinLaw -/
def k1 : Class := { plain "com/example/fastpath/fastpath/settings/RedisServerToStringPinLaw" (some 0) with
  accessFlags := 49
  interfaces := #[]
  cf := some (fileOf pool1 43 #[] #[{ accessFlags := 1, nameIndex := 5, descriptorIndex := 6, attributes := #[] }, { accessFlags := 10, nameIndex := 68, descriptorIndex := 69, attributes := #[] }, { accessFlags := 10, nameIndex := 46, descriptorIndex := 47, attributes := #[] }, { accessFlags := 10, nameIndex := 72, descriptorIndex := 73, attributes := #[] }, { accessFlags := 9, nameIndex := 79, descriptorIndex := 80, attributes := #[] }] 49 2 #[] #[])
  fields := #[]
  methods := #[k1m0, k1m1, k1m2, k1m3, k1m4]
  instanceTypes := #[]
  staticTypes := #[]
  resolved := Array.replicate 85 none
  statics := none }

def pool2 : Array CpInfo := pool [(1, .class_ 2), (0, u "java/io/Serializable"), (0, .class_ 4), (0, u "java/lang/Object")] 2

/-- java/io/Serializable -/
def k2 : Class := { plain "java/io/Serializable" (some 0) with
  accessFlags := 1537
  interfaces := #[]
  cf := some (fileOf pool2 1 #[] #[] 1537 3 #[] #[])
  fields := #[]
  methods := #[]
  instanceTypes := #[]
  staticTypes := #[]
  resolved := Array.replicate 7 none
  statics := none }

def pool3 : Array CpInfo := pool [(1, .class_ 2), (0, u "java/lang/Comparable"), (0, .class_ 4), (0, u "java/lang/Object")] 7

/-- java/lang/Comparable -/
def k3 : Class := { plain "java/lang/Comparable" (some 0) with
  accessFlags := 1537
  interfaces := #[]
  cf := some (fileOf pool3 1 #[] #[] 1537 3 #[] #[])
  fields := #[]
  methods := #[]
  instanceTypes := #[]
  staticTypes := #[]
  resolved := Array.replicate 12 none
  statics := none }

def pool4 : Array CpInfo := pool [(2, .class_ 4), (1, u "java/lang/CharSequence"), (42, .class_ 48), (0, u "java/lang/CharSequence$1CodePointIterator"), (10, .class_ 60), (0, u "java/lang/CharSequence$1CharIterator"), (5, .class_ 67), (0, u "java/lang/Object")] 63

/-- java/lang/CharSequence -/
def k4 : Class := { plain "java/lang/CharSequence" (some 0) with
  accessFlags := 1537
  interfaces := #[]
  cf := some (fileOf pool4 2 #[.nestMembers #[47, 59]] #[] 1537 66 #[] #[])
  fields := #[]
  methods := #[]
  instanceTypes := #[]
  staticTypes := #[]
  resolved := Array.replicate 131 none
  statics := none }

def pool5 : Array CpInfo := pool [(1, .class_ 2), (0, u "java/lang/constant/Constable"), (0, .class_ 4), (0, u "java/lang/Object")] 6

/-- java/lang/constant/Constable -/
def k5 : Class := { plain "java/lang/constant/Constable" (some 0) with
  accessFlags := 1537
  interfaces := #[]
  cf := some (fileOf pool5 1 #[] #[] 1537 3 #[] #[])
  fields := #[]
  methods := #[]
  instanceTypes := #[]
  staticTypes := #[]
  resolved := Array.replicate 11 none
  statics := none }

def pool6 : Array CpInfo := pool [(1, .class_ 2), (0, u "java/lang/constant/ConstantDesc"), (0, .class_ 4), (0, u "java/lang/Object")] 32

/-- java/lang/constant/ConstantDesc -/
def k6 : Class := { plain "java/lang/constant/ConstantDesc" (some 0) with
  accessFlags := 1537
  interfaces := #[]
  cf := some (fileOf pool6 1 #[] #[] 1537 3 #[] #[])
  fields := #[]
  methods := #[]
  instanceTypes := #[]
  staticTypes := #[]
  resolved := Array.replicate 37 none
  statics := none }

def pool7 : Array CpInfo := pool [(1, .methodref 2 3), (0, .class_ 4), (0, .nameAndType 5 6), (0, u "java/lang/Object"), (0, u "<init>"), (0, u "()V"), (0, .string 8), (0, u ""), (0, .fieldref 10 11), (0, .class_ 12), (0, .nameAndType 13 14), (0, u "java/lang/String"), (0, u "value"), (0, u "[B"), (0, .fieldref 10 16), (0, .nameAndType 17 18), (0, u "coder"), (0, u "B"), (2, u "hash"), (0, u "I"), (2, u "hashIsZero"), (0, u "Z"), (0, .methodref 10 28), (0, .nameAndType 5 29), (0, u "([CIILjava/lang/Void;)V"), (8, .fieldref 10 39), (0, .nameAndType 40 26), (0, u "COMPACT_STRINGS"), (1, .class_ 44), (1, u "java/lang/StringUTF16"), (0, u "compress"), (1, .methodref 42 48), (0, .nameAndType 49 50), (0, u "coderFromArrayLen"), (0, u "([BI)B"), (2, u "toBytes"), (0, .methodref 55 56), (0, .class_ 57), (0, .nameAndType 58 59), (0, u "java/util/Arrays"), (0, u "copyOfRange"), (0, u "([BII)[B"), (47, .class_ 109), (1, u "java/lang/StringLatin1"), (32, u "()Z"), (34, .methodref 42 178), (0, .nameAndType 45 179), (0, u "([CII)[B"), (13, .class_ 195), (1, u "java/lang/System"), (13, .methodref 10 210), (0, .nameAndType 5 211), (0, u "([BB)V"), (0, .methodref 193 213), (0, .nameAndType 214 215), (0, u "arraycopy"), (0, u "(Ljava/lang/Object;ILjava/lang/Object;II)V"), (118, u "()I"), (0, .methodref 10 336), (0, .nameAndType 17 337), (0, u "()B"), (2, u "()[B"), (22, u "([BI)C"), (5, u "(C)Z"), (21, u "(II)V"), (35, u "(I)C"), (61, .methodref 10 490), (0, .nameAndType 5 491), (0, u "(Ljava/lang/AbstractStringBuilder;Ljava/lang/Void;)V"), (0, .methodref 10 493), (0, .nameAndType 494 142), (0, u "isLatin1"), (0, .methodref 107 496), (0, .nameAndType 497 363), (0, u "charAt"), (3, u "checkIndex"), (4, .nameAndType 507 334), (0, u "length"), (24, u "getBytes"), (16, .methodref 550 506), (0, .class_ 551), (0, u "java/lang/AbstractStringBuilder"), (0, .methodref 550 553), (0, .nameAndType 554 340), (0, u "getValue"), (20, .class_ 576), (0, u "java/lang/CharSequence"), (22, u "CASE_INSENSITIVE_ORDER"), (0, u "Ljava/util/Comparator;"), (181, u "valueOf"), (0, u "(C)Ljava/lang/String;"), (37, u "([BIB)V"), (188, u "([C)V"), (4, .methodref 107 1016), (0, .nameAndType 1017 369), (0, u "canEncode"), (0, .methodref 107 1019), (0, .nameAndType 53 1020), (0, u "(C)[B"), (26, .methodref 550 493), (5, .fieldref 1054 1055), (0, .class_ 1056), (0, .nameAndType 1057 1058), (0, u "jdk/internal/util/Preconditions"), (0, u "SIOOBE_FORMATTER"), (0, u "Ljava/util/function/BiFunction;"), (0, .methodref 1054 1060), (0, .nameAndType 501 1061), (0, u "(IILjava/util/function/BiFunction;)I"), (39, u "serialPersistentFields"), (0, u "[Ljava/io/ObjectStreamField;"), (0, .class_ 1104), (0, u "java/lang/String$CaseInsensitiveComparator"), (1, .class_ 1107), (0, u "java/io/Serializable"), (0, .class_ 1109), (0, u "java/lang/Comparable"), (0, .class_ 1111), (0, u "java/lang/constant/Constable"), (0, .class_ 1113), (0, u "java/lang/constant/ConstantDesc"), (2, u "serialVersionUID"), (0, u "J"), (3, u "REPL"), (0, u "C"), (2, u "LATIN1"), (1, u "UTF16"), (105, u "(Ljava/lang/StringBuilder;)V")] 217

def k7m0 : Method := { name := "<init>", desc := "()V", sig := { parameters := [], returnType := none }, accessFlags := 1, code := none }
def k7c1 : Code := { maxStack := 5, maxLocals := 2, code := jdk_42_method_3_code, exceptionTable := #[], attributes := #[] }
def k7m1 : Method := { name := "<init>", desc := "([C)V", sig := { parameters := [(.array .char)], returnType := none }, accessFlags := 1, code := some k7c1 }
def k7c2 : Code := { maxStack := 3, maxLocals := 2, code := jdk_42_method_53_code, exceptionTable := #[], attributes := #[] }
def k7m2 : Method := { name := "<init>", desc := "(Ljava/lang/StringBuilder;)V", sig := { parameters := [(.object "java/lang/StringBuilder")], returnType := none }, accessFlags := 1, code := some k7c2 }
def k7c3 : Code := { maxStack := 2, maxLocals := 1, code := jdk_42_method_54_code, exceptionTable := #[], attributes := #[] }
def k7m3 : Method := { name := "length", desc := "()I", sig := { parameters := [], returnType := some .int }, accessFlags := 1, code := some k7c3 }
def k7c4 : Code := { maxStack := 2, maxLocals := 2, code := jdk_42_method_56_code, exceptionTable := #[], attributes := #[] }
def k7m4 : Method := { name := "charAt", desc := "(I)C", sig := { parameters := [.int], returnType := some .char }, accessFlags := 1, code := some k7c4 }
def k7c5 : Code := { maxStack := 4, maxLocals := 1, code := jdk_42_method_139_code, exceptionTable := #[], attributes := #[] }
def k7m5 : Method := { name := "valueOf", desc := "(C)Ljava/lang/String;", sig := { parameters := [.char], returnType := some (.object "java/lang/String") }, accessFlags := 9, code := some k7c5 }
def k7c6 : Code := { maxStack := 5, maxLocals := 4, code := jdk_42_method_147_code, exceptionTable := #[], attributes := #[] }
def k7m6 : Method := { name := "getBytes", desc := "([BIB)V", sig := { parameters := [(.array .byte), .int, .byte], returnType := none }, accessFlags := 0, code := some k7c6 }
def k7c7 : Code := { maxStack := 4, maxLocals := 6, code := jdk_42_method_149_code, exceptionTable := #[], attributes := #[] }
def k7m7 : Method := { name := "<init>", desc := "([CIILjava/lang/Void;)V", sig := { parameters := [(.array .char), .int, .int, (.object "java/lang/Void")], returnType := none }, accessFlags := 2, code := some k7c7 }
def k7c8 : Code := { maxStack := 5, maxLocals := 5, code := jdk_42_method_150_code, exceptionTable := #[], attributes := #[] }
def k7m8 : Method := { name := "<init>", desc := "(Ljava/lang/AbstractStringBuilder;Ljava/lang/Void;)V", sig := { parameters := [(.object "java/lang/AbstractStringBuilder"), (.object "java/lang/Void")], returnType := none }, accessFlags := 0, code := some k7c8 }
def k7c9 : Code := { maxStack := 2, maxLocals := 3, code := jdk_42_method_151_code, exceptionTable := #[], attributes := #[] }
def k7m9 : Method := { name := "<init>", desc := "([BB)V", sig := { parameters := [(.array .byte), .byte], returnType := none }, accessFlags := 0, code := some k7c9 }
def k7c10 : Code := { maxStack := 1, maxLocals := 1, code := jdk_42_method_152_code, exceptionTable := #[], attributes := #[] }
def k7m10 : Method := { name := "coder", desc := "()B", sig := { parameters := [], returnType := some .byte }, accessFlags := 0, code := some k7c10 }
def k7c11 : Code := { maxStack := 1, maxLocals := 1, code := jdk_42_method_154_code, exceptionTable := #[], attributes := #[] }
def k7m11 : Method := { name := "isLatin1", desc := "()Z", sig := { parameters := [], returnType := some .boolean }, accessFlags := 0, code := some k7c11 }
def k7c12 : Code := { maxStack := 3, maxLocals := 2, code := jdk_42_method_155_code, exceptionTable := #[], attributes := #[] }
def k7m12 : Method := { name := "checkIndex", desc := "(II)V", sig := { parameters := [.int, .int], returnType := none }, accessFlags := 8, code := some k7c12 }
/-- java/lang/String -/
def k7 : Class := { plain "java/lang/String" (some 0) with
  accessFlags := 49
  interfaces := #[2, 3, 4, 5, 6]
  cf := some (fileOf pool7 10 #[.nestMembers #[1103]] #[{ accessFlags := 1, nameIndex := 5, descriptorIndex := 6, attributes := #[] }, { accessFlags := 1, nameIndex := 5, descriptorIndex := 1010, attributes := #[] }, { accessFlags := 1, nameIndex := 5, descriptorIndex := 1233, attributes := #[] }, { accessFlags := 1, nameIndex := 507, descriptorIndex := 334, attributes := #[] }, { accessFlags := 1, nameIndex := 497, descriptorIndex := 427, attributes := #[] }, { accessFlags := 9, nameIndex := 782, descriptorIndex := 783, attributes := #[] }, { accessFlags := 0, nameIndex := 532, descriptorIndex := 821, attributes := #[] }, { accessFlags := 2, nameIndex := 5, descriptorIndex := 29, attributes := #[] }, { accessFlags := 0, nameIndex := 5, descriptorIndex := 491, attributes := #[] }, { accessFlags := 0, nameIndex := 5, descriptorIndex := 211, attributes := #[] }, { accessFlags := 0, nameIndex := 17, descriptorIndex := 337, attributes := #[] }, { accessFlags := 0, nameIndex := 494, descriptorIndex := 142, attributes := #[] }, { accessFlags := 8, nameIndex := 501, descriptorIndex := 391, attributes := #[] }] 49 2 #[1106, 1108, 575, 1110, 1112] #[{ accessFlags := 18, nameIndex := 13, descriptorIndex := 14, attributes := #[] }, { accessFlags := 18, nameIndex := 17, descriptorIndex := 18, attributes := #[] }, { accessFlags := 2, nameIndex := 21, descriptorIndex := 22, attributes := #[] }, { accessFlags := 2, nameIndex := 25, descriptorIndex := 26, attributes := #[] }, { accessFlags := 26, nameIndex := 1116, descriptorIndex := 1117, attributes := #[] }, { accessFlags := 24, nameIndex := 40, descriptorIndex := 26, attributes := #[] }, { accessFlags := 26, nameIndex := 1101, descriptorIndex := 1102, attributes := #[] }, { accessFlags := 26, nameIndex := 1121, descriptorIndex := 1122, attributes := #[] }, { accessFlags := 25, nameIndex := 599, descriptorIndex := 600, attributes := #[] }, { accessFlags := 24, nameIndex := 1125, descriptorIndex := 18, attributes := #[] }, { accessFlags := 24, nameIndex := 1127, descriptorIndex := 18, attributes := #[] }])
  fields := #[{ name := "value", type := (.array .byte), accessFlags := 18, slot := 0, constantValue := 0 }, { name := "coder", type := .byte, accessFlags := 18, slot := 1, constantValue := 0 }, { name := "hash", type := .int, accessFlags := 2, slot := 2, constantValue := 0 }, { name := "hashIsZero", type := .boolean, accessFlags := 2, slot := 3, constantValue := 0 }, { name := "serialVersionUID", type := .long, accessFlags := 26, slot := 0, constantValue := 0 }, { name := "COMPACT_STRINGS", type := .boolean, accessFlags := 24, slot := 1, constantValue := 0 }, { name := "serialPersistentFields", type := (.array (.object "java/io/ObjectStreamField")), accessFlags := 26, slot := 2, constantValue := 0 }, { name := "REPL", type := .char, accessFlags := 26, slot := 3, constantValue := 0 }, { name := "CASE_INSENSITIVE_ORDER", type := (.object "java/util/Comparator"), accessFlags := 25, slot := 4, constantValue := 0 }, { name := "LATIN1", type := .byte, accessFlags := 24, slot := 5, constantValue := 0 }, { name := "UTF16", type := .byte, accessFlags := 24, slot := 6, constantValue := 0 }]
  methods := #[k7m0, k7m1, k7m2, k7m3, k7m4, k7m5, k7m6, k7m7, k7m8, k7m9, k7m10, k7m11, k7m12]
  instanceTypes := #[(.array .byte), .byte, .int, .boolean]
  staticTypes := #[.long, .boolean, (.array (.object "java/io/ObjectStreamField")), .char, (.object "java/util/Comparator"), .byte, .byte]
  resolved := Array.replicate 1451 none
  statics := some 0 }

def pool8 : Array CpInfo := pool [(1, .methodref 2 3), (0, .class_ 4), (0, .nameAndType 5 6), (0, u "java/lang/Object"), (0, u "<init>"), (0, u "()V"), (0, .class_ 8), (0, u "java/lang/Record")] 13

def k8c0 : Code := { maxStack := 1, maxLocals := 1, code := jdk_30_method_1_code, exceptionTable := #[], attributes := #[] }
def k8m0 : Method := { name := "<init>", desc := "()V", sig := { parameters := [], returnType := none }, accessFlags := 4, code := some k8c0 }
/-- java/lang/Record -/
def k8 : Class := { plain "java/lang/Record" (some 0) with
  accessFlags := 1057
  interfaces := #[]
  cf := some (fileOf pool8 7 #[] #[{ accessFlags := 4, nameIndex := 5, descriptorIndex := 6, attributes := #[] }] 1057 2 #[] #[])
  fields := #[]
  methods := #[k8m0]
  instanceTypes := #[]
  staticTypes := #[]
  resolved := Array.replicate 22 none
  statics := none }

def pool9 : Array CpInfo := pool [(1, .methodref 2 3), (0, .class_ 4), (0, .nameAndType 5 6), (0, u "java/lang/Record"), (0, u "<init>"), (0, u "()V"), (0, .fieldref 8 9), (0, .class_ 10), (0, .nameAndType 11 12), (0, u "com/example/fastpath/fastpath/settings/RedisServer"), (0, u "tls"), (0, u "Z"), (0, .fieldref 8 14), (0, .nameAndType 15 16), (0, u "host"), (0, u "Ljava/lang/String;"), (0, .fieldref 8 18), (0, .nameAndType 19 20), (0, u "port"), (0, u "I"), (0, .fieldref 8 22), (0, .nameAndType 23 16), (0, u "user"), (0, .fieldref 8 25), (0, .nameAndType 26 16), (0, u "password"), (0, .fieldref 8 28), (0, .nameAndType 29 20), (0, u "database"), (0, .string 31), (0, u "rediss"), (0, .string 33), (0, u "redis"), (0, .string 35), (0, u ""), (2, .string 39), (0, u "***@"), (0, .class_ 41), (0, u "java/lang/StringBuilder"), (0, .methodref 40 3), (0, .methodref 40 44), (0, .nameAndType 45 46), (0, u "append"), (0, u "(Ljava/lang/String;)Ljava/lang/StringBuilder;"), (0, .string 48), (0, u "://"), (0, .string 50), (0, u ":"), (0, .methodref 40 52), (0, .nameAndType 45 53), (0, u "(I)Ljava/lang/StringBuilder;"), (0, .string 55), (0, u "/"), (0, .methodref 40 57), (0, .nameAndType 58 59), (0, u "toString"), (0, u "()Ljava/lang/String;"), (8, u "(ZLjava/lang/String;ILjava/lang/String;Ljava/lang/String;I)V")] 34

def k9c0 : Code := { maxStack := 2, maxLocals := 7, code := prog_20_method_1_code, exceptionTable := #[], attributes := #[] }
def k9m0 : Method := { name := "<init>", desc := "(ZLjava/lang/String;ILjava/lang/String;Ljava/lang/String;I)V", sig := { parameters := [.boolean, (.object "java/lang/String"), .int, (.object "java/lang/String"), (.object "java/lang/String"), .int], returnType := none }, accessFlags := 1, code := some k9c0 }
def k9c1 : Code := { maxStack := 2, maxLocals := 3, code := prog_20_method_2_code, exceptionTable := #[], attributes := #[] }
def k9m1 : Method := { name := "toString", desc := "()Ljava/lang/String;", sig := { parameters := [], returnType := some (.object "java/lang/String") }, accessFlags := 1, code := some k9c1 }
/-- com/example/fastpath/fastpath/settings/RedisServer -/
def k9 : Class := { plain "com/example/fastpath/fastpath/settings/RedisServer" (some 8) with
  accessFlags := 49
  interfaces := #[]
  cf := some (fileOf pool9 8 #[] #[{ accessFlags := 1, nameIndex := 5, descriptorIndex := 68, attributes := #[] }, { accessFlags := 1, nameIndex := 58, descriptorIndex := 59, attributes := #[] }] 49 2 #[] #[{ accessFlags := 18, nameIndex := 11, descriptorIndex := 12, attributes := #[] }, { accessFlags := 18, nameIndex := 15, descriptorIndex := 16, attributes := #[] }, { accessFlags := 18, nameIndex := 19, descriptorIndex := 20, attributes := #[] }, { accessFlags := 18, nameIndex := 23, descriptorIndex := 16, attributes := #[] }, { accessFlags := 18, nameIndex := 26, descriptorIndex := 16, attributes := #[] }, { accessFlags := 18, nameIndex := 29, descriptorIndex := 20, attributes := #[] }])
  fields := #[{ name := "tls", type := .boolean, accessFlags := 18, slot := 0, constantValue := 0 }, { name := "host", type := (.object "java/lang/String"), accessFlags := 18, slot := 1, constantValue := 0 }, { name := "port", type := .int, accessFlags := 18, slot := 2, constantValue := 0 }, { name := "user", type := (.object "java/lang/String"), accessFlags := 18, slot := 3, constantValue := 0 }, { name := "password", type := (.object "java/lang/String"), accessFlags := 18, slot := 4, constantValue := 0 }, { name := "database", type := .int, accessFlags := 18, slot := 5, constantValue := 0 }]
  methods := #[k9m0, k9m1]
  instanceTypes := #[.boolean, (.object "java/lang/String"), .int, (.object "java/lang/String"), (.object "java/lang/String"), .int]
  staticTypes := #[]
  resolved := Array.replicate 103 none
  statics := none }

def pool10 : Array CpInfo := pool [(1, .class_ 2), (0, u "java/lang/Appendable"), (0, .class_ 4), (0, u "java/lang/Object")] 9

/-- java/lang/Appendable -/
def k10 : Class := { plain "java/lang/Appendable" (some 0) with
  accessFlags := 1537
  interfaces := #[]
  cf := some (fileOf pool10 1 #[] #[] 1537 3 #[] #[])
  fields := #[]
  methods := #[]
  instanceTypes := #[]
  staticTypes := #[]
  resolved := Array.replicate 14 none
  statics := none }

def pool11 : Array CpInfo := pool [(1, .class_ 2), (0, u "java/lang/String"), (0, .methodref 4 5), (0, .class_ 6), (0, .nameAndType 7 8), (0, u "java/lang/Object"), (0, u "<init>"), (0, u "()V"), (1, .class_ 12), (1, u "java/lang/AbstractStringBuilder"), (0, u "EMPTYVALUE"), (0, u "[B"), (0, .fieldref 10 16), (0, .nameAndType 17 14), (0, u "value"), (0, .fieldref 1 19), (0, .nameAndType 20 21), (0, u "COMPACT_STRINGS"), (0, u "Z"), (0, .fieldref 10 23), (0, .nameAndType 24 25), (0, u "coder"), (0, u "B"), (6, .methodref 1 33), (0, .nameAndType 34 35), (0, u "length"), (0, u "()I"), (0, .class_ 37), (0, u "java/lang/Integer"), (1, .integer 2147483647), (0, .methodref 1 41), (0, .nameAndType 24 42), (0, u "()B"), (2, u "append"), (0, u "(Ljava/lang/String;)Ljava/lang/AbstractStringBuilder;"), (1, .class_ 49), (0, u "java/lang/CharSequence"), (19, u "(Ljava/lang/String;)V"), (5, u "maybeLatin1"), (3, .fieldref 10 80), (0, .nameAndType 81 82), (0, u "count"), (0, u "I"), (0, .methodref 10 84), (0, .nameAndType 85 86), (0, u "isLatin1"), (0, u "()Z"), (13, .methodref 10 101), (0, .nameAndType 102 103), (0, u "ensureCapacityInternal"), (0, u "(I)V"), (0, .methodref 10 105), (0, .nameAndType 106 107), (0, u "newCapacity"), (0, u "(I)I"), (0, .methodref 109 110), (0, .class_ 111), (0, .nameAndType 112 113), (0, u "java/util/Arrays"), (0, u "copyOf"), (0, u "([BI)[B"), (0, .methodref 115 116), (0, .class_ 117), (0, .nameAndType 118 119), (0, u "jdk/internal/util/ArraysSupport"), (0, u "newLength"), (0, u "(III)I"), (68, u "getChars"), (19, .methodref 10 209), (0, .nameAndType 210 211), (0, u "putStringAt"), (0, u "(ILjava/lang/String;)V"), (5, u "inflateIfNeededFor"), (2, .nameAndType 221 222), (0, u "getBytes"), (0, u "([BIB)V"), (22, .methodref 36 246), (0, .nameAndType 247 107), (0, u "stringSize"), (0, .methodref 36 249), (0, .nameAndType 188 250), (0, u "(II[B)I"), (146, .methodref 10 398), (0, .nameAndType 217 69), (0, .methodref 1 220), (3, u "()[B"), (40, .class_ 445), (0, u "java/lang/Appendable"), (65, u "(I)Ljava/lang/AbstractStringBuilder;"), (40, u "getValue")] 56

def k11m0 : Method := { name := "<init>", desc := "()V", sig := { parameters := [], returnType := none }, accessFlags := 0, code := none }
def k11c1 : Code := { maxStack := 2, maxLocals := 2, code := jdk_68_method_2_code, exceptionTable := #[], attributes := #[] }
def k11m1 : Method := { name := "<init>", desc := "(I)V", sig := { parameters := [.int], returnType := none }, accessFlags := 0, code := some k11c1 }
def k11c2 : Code := { maxStack := 1, maxLocals := 1, code := jdk_68_method_6_code, exceptionTable := #[], attributes := #[] }
def k11m2 : Method := { name := "length", desc := "()I", sig := { parameters := [], returnType := some .int }, accessFlags := 1, code := some k11c2 }
def k11c3 : Code := { maxStack := 4, maxLocals := 3, code := jdk_68_method_9_code, exceptionTable := #[], attributes := #[] }
def k11m3 : Method := { name := "ensureCapacityInternal", desc := "(I)V", sig := { parameters := [.int], returnType := none }, accessFlags := 2, code := some k11c3 }
def k11c4 : Code := { maxStack := 5, maxLocals := 6, code := jdk_68_method_10_code, exceptionTable := #[], attributes := #[] }
def k11m4 : Method := { name := "newCapacity", desc := "(I)I", sig := { parameters := [.int], returnType := some .int }, accessFlags := 2, code := some k11c4 }
def k11c5 : Code := { maxStack := 3, maxLocals := 3, code := jdk_68_method_22_code, exceptionTable := #[], attributes := #[] }
def k11m5 : Method := { name := "append", desc := "(Ljava/lang/String;)Ljava/lang/AbstractStringBuilder;", sig := { parameters := [(.object "java/lang/String")], returnType := some (.object "java/lang/AbstractStringBuilder") }, accessFlags := 1, code := some k11c5 }
def k11c6 : Code := { maxStack := 4, maxLocals := 4, code := jdk_68_method_32_code, exceptionTable := #[], attributes := #[] }
def k11m6 : Method := { name := "append", desc := "(I)Ljava/lang/AbstractStringBuilder;", sig := { parameters := [.int], returnType := some (.object "java/lang/AbstractStringBuilder") }, accessFlags := 1, code := some k11c6 }
def k11c7 : Code := { maxStack := 1, maxLocals := 1, code := jdk_68_method_64_code, exceptionTable := #[], attributes := #[] }
def k11m7 : Method := { name := "getValue", desc := "()[B", sig := { parameters := [], returnType := some (.array .byte) }, accessFlags := 16, code := some k11c7 }
def k11c8 : Code := { maxStack := 1, maxLocals := 1, code := jdk_68_method_68_code, exceptionTable := #[], attributes := #[] }
def k11m8 : Method := { name := "isLatin1", desc := "()Z", sig := { parameters := [], returnType := some .boolean }, accessFlags := 16, code := some k11c8 }
def k11c9 : Code := { maxStack := 2, maxLocals := 2, code := jdk_68_method_71_code, exceptionTable := #[], attributes := #[] }
def k11m9 : Method := { name := "inflateIfNeededFor", desc := "(Ljava/lang/String;)V", sig := { parameters := [(.object "java/lang/String")], returnType := none }, accessFlags := 2, code := some k11c9 }
def k11c10 : Code := { maxStack := 4, maxLocals := 3, code := jdk_68_method_73_code, exceptionTable := #[], attributes := #[] }
def k11m10 : Method := { name := "putStringAt", desc := "(ILjava/lang/String;)V", sig := { parameters := [.int, (.object "java/lang/String")], returnType := none }, accessFlags := 2, code := some k11c10 }
/-- java/lang/AbstractStringBuilder -/
def k11 : Class := { plain "java/lang/AbstractStringBuilder" (some 0) with
  accessFlags := 1056
  interfaces := #[10, 4]
  cf := some (fileOf pool11 10 #[] #[{ accessFlags := 0, nameIndex := 7, descriptorIndex := 8, attributes := #[] }, { accessFlags := 0, nameIndex := 7, descriptorIndex := 103, attributes := #[] }, { accessFlags := 1, nameIndex := 34, descriptorIndex := 35, attributes := #[] }, { accessFlags := 2, nameIndex := 102, descriptorIndex := 103, attributes := #[] }, { accessFlags := 2, nameIndex := 106, descriptorIndex := 107, attributes := #[] }, { accessFlags := 1, nameIndex := 45, descriptorIndex := 46, attributes := #[] }, { accessFlags := 1, nameIndex := 45, descriptorIndex := 511, attributes := #[] }, { accessFlags := 16, nameIndex := 552, descriptorIndex := 403, attributes := #[] }, { accessFlags := 16, nameIndex := 85, descriptorIndex := 86, attributes := #[] }, { accessFlags := 2, nameIndex := 217, descriptorIndex := 69, attributes := #[] }, { accessFlags := 2, nameIndex := 210, descriptorIndex := 211, attributes := #[] }] 1056 4 #[444, 48] #[{ accessFlags := 0, nameIndex := 17, descriptorIndex := 14, attributes := #[] }, { accessFlags := 0, nameIndex := 24, descriptorIndex := 25, attributes := #[] }, { accessFlags := 0, nameIndex := 75, descriptorIndex := 21, attributes := #[] }, { accessFlags := 0, nameIndex := 81, descriptorIndex := 82, attributes := #[] }, { accessFlags := 26, nameIndex := 13, descriptorIndex := 14, attributes := #[] }])
  fields := #[{ name := "value", type := (.array .byte), accessFlags := 0, slot := 0, constantValue := 0 }, { name := "coder", type := .byte, accessFlags := 0, slot := 1, constantValue := 0 }, { name := "maybeLatin1", type := .boolean, accessFlags := 0, slot := 2, constantValue := 0 }, { name := "count", type := .int, accessFlags := 0, slot := 3, constantValue := 0 }, { name := "EMPTYVALUE", type := (.array .byte), accessFlags := 26, slot := 0, constantValue := 0 }]
  methods := #[k11m0, k11m1, k11m2, k11m3, k11m4, k11m5, k11m6, k11m7, k11m8, k11m9, k11m10]
  instanceTypes := #[(.array .byte), .byte, .boolean, .int]
  staticTypes := #[(.array .byte)]
  resolved := Array.replicate 609 none
  statics := none }

def pool12 : Array CpInfo := pool [(1, .methodref 2 3), (0, .class_ 4), (0, .nameAndType 5 6), (0, u "java/lang/AbstractStringBuilder"), (0, u "<init>"), (0, u "(I)V"), (11, .class_ 20), (1, u "java/lang/String"), (3, .class_ 26), (1, u "java/lang/StringBuilder"), (0, u "append"), (0, u "(Ljava/lang/String;)Ljava/lang/StringBuilder;"), (0, .methodref 2 30), (0, .nameAndType 27 31), (0, u "(Ljava/lang/String;)Ljava/lang/AbstractStringBuilder;"), (21, .methodref 2 54), (0, .nameAndType 27 55), (0, u "(I)Ljava/lang/AbstractStringBuilder;"), (81, .methodref 18 138), (0, .nameAndType 5 139), (0, u "(Ljava/lang/StringBuilder;)V"), (5, u "()V"), (10, u "()I"), (111, u "(I)Ljava/lang/StringBuilder;"), (74, .methodref 2 344), (0, .nameAndType 345 156), (0, u "length"), (3, .class_ 350), (0, u "java/lang/Appendable"), (0, .class_ 352), (0, u "java/io/Serializable"), (0, .class_ 354), (0, u "java/lang/Comparable"), (0, .class_ 356), (0, u "java/lang/CharSequence"), (0, u "serialVersionUID"), (0, u "J"), (40, u "toString"), (0, u "()Ljava/lang/String;")] 21

def k12c0 : Code := { maxStack := 2, maxLocals := 1, code := jdk_67_method_1_code, exceptionTable := #[], attributes := #[] }
def k12m0 : Method := { name := "<init>", desc := "()V", sig := { parameters := [], returnType := none }, accessFlags := 1, code := some k12c0 }
def k12c1 : Code := { maxStack := 2, maxLocals := 2, code := jdk_67_method_7_code, exceptionTable := #[], attributes := #[] }
def k12m1 : Method := { name := "append", desc := "(Ljava/lang/String;)Ljava/lang/StringBuilder;", sig := { parameters := [(.object "java/lang/String")], returnType := some (.object "java/lang/StringBuilder") }, accessFlags := 1, code := some k12c1 }
def k12c2 : Code := { maxStack := 2, maxLocals := 2, code := jdk_67_method_15_code, exceptionTable := #[], attributes := #[] }
def k12m2 : Method := { name := "append", desc := "(I)Ljava/lang/StringBuilder;", sig := { parameters := [.int], returnType := some (.object "java/lang/StringBuilder") }, accessFlags := 1, code := some k12c2 }
def k12c3 : Code := { maxStack := 3, maxLocals := 1, code := jdk_67_method_42_code, exceptionTable := #[], attributes := #[] }
def k12m3 : Method := { name := "toString", desc := "()Ljava/lang/String;", sig := { parameters := [], returnType := some (.object "java/lang/String") }, accessFlags := 1, code := some k12c3 }
def k12c4 : Code := { maxStack := 1, maxLocals := 1, code := jdk_67_method_93_code, exceptionTable := #[], attributes := #[] }
def k12m4 : Method := { name := "length", desc := "()I", sig := { parameters := [], returnType := some .int }, accessFlags := 4161, code := some k12c4 }
/-- java/lang/StringBuilder -/
def k12 : Class := { plain "java/lang/StringBuilder" (some 11) with
  accessFlags := 49
  interfaces := #[10, 2, 3, 4]
  cf := some (fileOf pool12 24 #[] #[{ accessFlags := 1, nameIndex := 5, descriptorIndex := 145, attributes := #[] }, { accessFlags := 1, nameIndex := 27, descriptorIndex := 28, attributes := #[] }, { accessFlags := 1, nameIndex := 27, descriptorIndex := 268, attributes := #[] }, { accessFlags := 1, nameIndex := 399, descriptorIndex := 400, attributes := #[] }, { accessFlags := 4161, nameIndex := 345, descriptorIndex := 156, attributes := #[] }] 49 2 #[349, 351, 353, 355] #[{ accessFlags := 24, nameIndex := 357, descriptorIndex := 358, attributes := #[] }])
  fields := #[{ name := "serialVersionUID", type := .long, accessFlags := 24, slot := 0, constantValue := 0 }]
  methods := #[k12m0, k12m1, k12m2, k12m3, k12m4]
  instanceTypes := #[(.array .byte), .byte, .boolean, .int]
  staticTypes := #[.long]
  resolved := Array.replicate 422 none
  statics := none }

def pool13 : Array CpInfo := pool [(2, .class_ 4), (1, u "java/lang/Object"), (0, u "<init>"), (0, u "()V"), (1, .class_ 10), (1, u "java/lang/System"), (0, u "allowSecurityManager"), (0, u "I"), (16, u "cons"), (0, u "Ljava/io/Console;"), (77, .class_ 110), (1, u "java/lang/System$CallersHolder"), (43, u "initialErrStream"), (0, u "Ljava/io/PrintStream;"), (19, u "security"), (0, u "Ljava/lang/SecurityManager;"), (31, .class_ 209), (0, u "java/lang/System$1"), (7, u "props"), (0, u "Ljava/util/Properties;"), (2, u "lineSeparator"), (0, u "Ljava/lang/String;"), (96, .class_ 321), (1, u "java/lang/System$LoggerFinder"), (5, .class_ 328), (0, u "java/lang/System$Logger"), (67, u "err"), (2, u "out"), (91, u "notSupportedJnuEncoding"), (15, u "in"), (17, u "initialIn"), (0, u "Ljava/io/InputStream;"), (35, u "bootLayer"), (0, u "Ljava/lang/ModuleLayer;"), (99, .class_ 664), (0, u "java/lang/System$2"), (9, u "NEVER"), (2, u "MAYBE"), (49, u "arraycopy"), (0, u "(Ljava/lang/Object;ILjava/lang/Object;II)V"), (72, .class_ 802), (0, u "java/lang/System$Logger$Level")] 31

def k13m0 : Method := { name := "<init>", desc := "()V", sig := { parameters := [], returnType := none }, accessFlags := 2, code := none }
def k13m1 : Method := { name := "arraycopy", desc := "(Ljava/lang/Object;ILjava/lang/Object;II)V", sig := { parameters := [(.object "java/lang/Object"), .int, (.object "java/lang/Object"), .int, .int], returnType := none }, accessFlags := 265, code := none }
/-- java/lang/System -/
def k13 : Class := { plain "java/lang/System" (some 0) with
  accessFlags := 49
  interfaces := #[]
  cf := some (fileOf pool13 8 #[.nestMembers #[319, 327, 801, 108, 663, 208]] #[{ accessFlags := 2, nameIndex := 5, descriptorIndex := 6, attributes := #[] }, { accessFlags := 265, nameIndex := 727, descriptorIndex := 728, attributes := #[] }] 49 2 #[] #[{ accessFlags := 25, nameIndex := 507, descriptorIndex := 526, attributes := #[] }, { accessFlags := 25, nameIndex := 399, descriptorIndex := 155, attributes := #[] }, { accessFlags := 25, nameIndex := 396, descriptorIndex := 155, attributes := #[] }, { accessFlags := 10, nameIndex := 525, descriptorIndex := 526, attributes := #[] }, { accessFlags := 26, nameIndex := 674, descriptorIndex := 12, attributes := #[] }, { accessFlags := 26, nameIndex := 677, descriptorIndex := 12, attributes := #[] }, { accessFlags := 10, nameIndex := 11, descriptorIndex := 12, attributes := #[] }, { accessFlags := 74, nameIndex := 175, descriptorIndex := 176, attributes := #[] }, { accessFlags := 10, nameIndex := 491, descriptorIndex := 222, attributes := #[] }, { accessFlags := 74, nameIndex := 29, descriptorIndex := 30, attributes := #[] }, { accessFlags := 74, nameIndex := 154, descriptorIndex := 155, attributes := #[] }, { accessFlags := 10, nameIndex := 217, descriptorIndex := 218, attributes := #[] }, { accessFlags := 10, nameIndex := 221, descriptorIndex := 222, attributes := #[] }, { accessFlags := 8, nameIndex := 562, descriptorIndex := 563, attributes := #[] }])
  fields := #[{ name := "in", type := (.object "java/io/InputStream"), accessFlags := 25, slot := 0, constantValue := 0 }, { name := "out", type := (.object "java/io/PrintStream"), accessFlags := 25, slot := 1, constantValue := 0 }, { name := "err", type := (.object "java/io/PrintStream"), accessFlags := 25, slot := 2, constantValue := 0 }, { name := "initialIn", type := (.object "java/io/InputStream"), accessFlags := 10, slot := 3, constantValue := 0 }, { name := "NEVER", type := .int, accessFlags := 26, slot := 4, constantValue := 0 }, { name := "MAYBE", type := .int, accessFlags := 26, slot := 5, constantValue := 0 }, { name := "allowSecurityManager", type := .int, accessFlags := 10, slot := 6, constantValue := 0 }, { name := "security", type := (.object "java/lang/SecurityManager"), accessFlags := 74, slot := 7, constantValue := 0 }, { name := "notSupportedJnuEncoding", type := (.object "java/lang/String"), accessFlags := 10, slot := 8, constantValue := 0 }, { name := "cons", type := (.object "java/io/Console"), accessFlags := 74, slot := 9, constantValue := 0 }, { name := "initialErrStream", type := (.object "java/io/PrintStream"), accessFlags := 74, slot := 10, constantValue := 0 }, { name := "props", type := (.object "java/util/Properties"), accessFlags := 10, slot := 11, constantValue := 0 }, { name := "lineSeparator", type := (.object "java/lang/String"), accessFlags := 10, slot := 12, constantValue := 0 }, { name := "bootLayer", type := (.object "java/lang/ModuleLayer"), accessFlags := 8, slot := 13, constantValue := 0 }]
  methods := #[k13m0, k13m1]
  instanceTypes := #[]
  staticTypes := #[(.object "java/io/InputStream"), (.object "java/io/PrintStream"), (.object "java/io/PrintStream"), (.object "java/io/InputStream"), .int, .int, .int, (.object "java/lang/SecurityManager"), (.object "java/lang/String"), (.object "java/io/Console"), (.object "java/io/PrintStream"), (.object "java/util/Properties"), (.object "java/lang/String"), (.object "java/lang/ModuleLayer")]
  resolved := Array.replicate 834 none
  statics := none }

def pool14 : Array CpInfo := pool [(2, .class_ 4), (1, u "java/lang/Object"), (0, u "<init>"), (0, u "()V"), (1, .class_ 10), (1, u "java/lang/Number"), (2, .class_ 14), (0, u "java/io/Serializable"), (0, u "serialVersionUID"), (0, u "J")] 20

def k14m0 : Method := { name := "<init>", desc := "()V", sig := { parameters := [], returnType := none }, accessFlags := 1, code := none }
/-- java/lang/Number -/
def k14 : Class := { plain "java/lang/Number" (some 0) with
  accessFlags := 1057
  interfaces := #[2]
  cf := some (fileOf pool14 8 #[] #[{ accessFlags := 1, nameIndex := 5, descriptorIndex := 6, attributes := #[] }] 1057 2 #[13] #[{ accessFlags := 26, nameIndex := 15, descriptorIndex := 16, attributes := #[] }])
  fields := #[{ name := "serialVersionUID", type := .long, accessFlags := 26, slot := 0, constantValue := 0 }]
  methods := #[k14m0]
  instanceTypes := #[]
  staticTypes := #[.long]
  resolved := Array.replicate 37 none
  statics := none }

def pool15 : Array CpInfo := pool [(1, .class_ 2), (0, u "java/lang/Integer"), (16, u "digits"), (0, u "[C"), (33, u "(I)I"), (19, u "stringSize"), (2, u "getChars"), (0, u "(II[B)I"), (4, .fieldref 1 84), (0, .nameAndType 85 86), (0, u "DigitOnes"), (0, u "[B"), (0, .fieldref 1 88), (0, .nameAndType 89 86), (0, u "DigitTens"), (99, .class_ 190), (0, u "java/lang/Integer$IntegerCache"), (3, u "I"), (8, .class_ 204), (0, u "java/lang/Number"), (2, u "value"), (94, u "TYPE"), (0, u "Ljava/lang/Class;"), (0, .class_ 305), (0, u "java/lang/Comparable"), (0, .class_ 307), (0, u "java/lang/constant/Constable"), (0, .class_ 309), (0, u "java/lang/constant/ConstantDesc"), (0, u "MIN_VALUE"), (1, u "MAX_VALUE"), (3, u "SIZE"), (1, u "BYTES"), (1, u "serialVersionUID"), (0, u "J")] 131

def k15c0 : Code := { maxStack := 4, maxLocals := 7, code := jdk_33_method_12_code, exceptionTable := #[], attributes := #[] }
def k15m0 : Method := { name := "getChars", desc := "(II[B)I", sig := { parameters := [.int, .int, (.array .byte)], returnType := some .int }, accessFlags := 8, code := some k15c0 }
def k15c1 : Code := { maxStack := 2, maxLocals := 4, code := jdk_33_method_13_code, exceptionTable := #[], attributes := #[] }
def k15m1 : Method := { name := "stringSize", desc := "(I)I", sig := { parameters := [.int], returnType := some .int }, accessFlags := 8, code := some k15c1 }
/-- java/lang/Integer -/
def k15 : Class := { plain "java/lang/Integer" (some 14) with
  accessFlags := 49
  interfaces := #[3, 5, 6]
  cf := some (fileOf pool15 1 #[.nestMembers #[189]] #[{ accessFlags := 8, nameIndex := 77, descriptorIndex := 78, attributes := #[] }, { accessFlags := 8, nameIndex := 74, descriptorIndex := 54, attributes := #[] }] 49 203 #[304, 306, 308] #[{ accessFlags := 25, nameIndex := 310, descriptorIndex := 194, attributes := #[] }, { accessFlags := 25, nameIndex := 312, descriptorIndex := 194, attributes := #[] }, { accessFlags := 25, nameIndex := 302, descriptorIndex := 303, attributes := #[] }, { accessFlags := 24, nameIndex := 19, descriptorIndex := 20, attributes := #[] }, { accessFlags := 24, nameIndex := 89, descriptorIndex := 86, attributes := #[] }, { accessFlags := 24, nameIndex := 85, descriptorIndex := 86, attributes := #[] }, { accessFlags := 18, nameIndex := 207, descriptorIndex := 194, attributes := #[] }, { accessFlags := 25, nameIndex := 316, descriptorIndex := 194, attributes := #[] }, { accessFlags := 25, nameIndex := 318, descriptorIndex := 194, attributes := #[] }, { accessFlags := 26, nameIndex := 320, descriptorIndex := 321, attributes := #[] }])
  fields := #[{ name := "MIN_VALUE", type := .int, accessFlags := 25, slot := 0, constantValue := 0 }, { name := "MAX_VALUE", type := .int, accessFlags := 25, slot := 1, constantValue := 0 }, { name := "TYPE", type := (.object "java/lang/Class"), accessFlags := 25, slot := 2, constantValue := 0 }, { name := "digits", type := (.array .char), accessFlags := 24, slot := 3, constantValue := 0 }, { name := "DigitTens", type := (.array .byte), accessFlags := 24, slot := 4, constantValue := 0 }, { name := "DigitOnes", type := (.array .byte), accessFlags := 24, slot := 5, constantValue := 0 }, { name := "value", type := .int, accessFlags := 18, slot := 0, constantValue := 0 }, { name := "SIZE", type := .int, accessFlags := 25, slot := 6, constantValue := 0 }, { name := "BYTES", type := .int, accessFlags := 25, slot := 7, constantValue := 0 }, { name := "serialVersionUID", type := .long, accessFlags := 26, slot := 8, constantValue := 0 }]
  methods := #[k15m0, k15m1]
  instanceTypes := #[.int]
  staticTypes := #[.int, .int, (.object "java/lang/Class"), (.array .char), (.array .byte), (.array .byte), .int, .int, .long]
  resolved := Array.replicate 453 none
  statics := some 1 }

def pool16 : Array CpInfo := pool [(2, .class_ 4), (1, u "java/lang/Object"), (0, u "<init>"), (0, u "()V"), (7, .class_ 16), (1, u "java/util/Arrays"), (57, .class_ 76), (1, u "java/util/Arrays$NaturalOrder"), (32, u "()Ljava/lang/Object;"), (3, .class_ 115), (1, u "java/util/Arrays$LegacyMergeSort"), (1, u "Z"), (10, .nameAndType 129 109), (0, u "clone"), (9, u "copyOfRange"), (10, .methodref 151 152), (0, .class_ 153), (0, .nameAndType 154 155), (0, u "java/lang/System"), (0, u "arraycopy"), (0, u "(Ljava/lang/Object;ILjava/lang/Object;II)V"), (146, u "copyOf"), (1, .methodref 305 306), (0, .class_ 307), (0, .nameAndType 308 309), (0, u "java/lang/Math"), (0, u "min"), (0, u "(II)I"), (0, .methodref 311 128), (0, .class_ 312), (0, u "[B"), (26, .methodref 14 340), (0, .nameAndType 341 342), (0, u "copyOfRangeByte"), (0, u "([BII)[B"), (0, .methodref 14 344), (0, .nameAndType 345 346), (0, u "checkLength"), (0, u "(II)V"), (28, .class_ 376), (0, u "java/util/Arrays$ArrayList"), (68, u "$assertionsDisabled"), (269, u "MIN_ARRAY_SORT_GRAN"), (0, u "I"), (2, u "INSERTIONSORT_THRESHOLD"), (149, u "([BI)[B"), (105, .class_ 976), (0, u "java/util/Arrays$ArrayItr")] 52

def k16m0 : Method := { name := "<init>", desc := "()V", sig := { parameters := [], returnType := none }, accessFlags := 2, code := none }
def k16c1 : Code := { maxStack := 6, maxLocals := 3, code := jdk_65_method_121_code, exceptionTable := #[], attributes := #[] }
def k16m1 : Method := { name := "copyOf", desc := "([BI)[B", sig := { parameters := [(.array .byte), .int], returnType := some (.array .byte) }, accessFlags := 9, code := some k16c1 }
def k16c2 : Code := { maxStack := 4, maxLocals := 2, code := jdk_65_method_131_code, exceptionTable := #[], attributes := #[] }
def k16m2 : Method := { name := "checkLength", desc := "(II)V", sig := { parameters := [.int, .int], returnType := none }, accessFlags := 10, code := some k16c2 }
def k16c3 : Code := { maxStack := 3, maxLocals := 3, code := jdk_65_method_132_code, exceptionTable := #[], attributes := #[] }
def k16m3 : Method := { name := "copyOfRange", desc := "([BII)[B", sig := { parameters := [(.array .byte), .int, .int], returnType := some (.array .byte) }, accessFlags := 9, code := some k16c3 }
def k16c4 : Code := { maxStack := 6, maxLocals := 5, code := jdk_65_method_133_code, exceptionTable := #[], attributes := #[] }
def k16m4 : Method := { name := "copyOfRangeByte", desc := "([BII)[B", sig := { parameters := [(.array .byte), .int, .int], returnType := some (.array .byte) }, accessFlags := 10, code := some k16c4 }
/-- java/util/Arrays -/
def k16 : Class := { plain "java/util/Arrays" (some 0) with
  accessFlags := 49
  interfaces := #[]
  cf := some (fileOf pool16 14 #[.nestMembers #[975, 375, 113, 74]] #[{ accessFlags := 2, nameIndex := 5, descriptorIndex := 6, attributes := #[] }, { accessFlags := 9, nameIndex := 302, descriptorIndex := 869, attributes := #[] }, { accessFlags := 10, nameIndex := 345, descriptorIndex := 346, attributes := #[] }, { accessFlags := 9, nameIndex := 139, descriptorIndex := 342, attributes := #[] }, { accessFlags := 10, nameIndex := 341, descriptorIndex := 342, attributes := #[] }] 49 2 #[] #[{ accessFlags := 26, nameIndex := 715, descriptorIndex := 716, attributes := #[] }, { accessFlags := 26, nameIndex := 719, descriptorIndex := 716, attributes := #[] }, { accessFlags := 4120, nameIndex := 445, descriptorIndex := 117, attributes := #[] }])
  fields := #[{ name := "MIN_ARRAY_SORT_GRAN", type := .int, accessFlags := 26, slot := 0, constantValue := 0 }, { name := "INSERTIONSORT_THRESHOLD", type := .int, accessFlags := 26, slot := 1, constantValue := 0 }, { name := "$assertionsDisabled", type := .boolean, accessFlags := 4120, slot := 2, constantValue := 0 }]
  methods := #[k16m0, k16m1, k16m2, k16m3, k16m4]
  instanceTypes := #[]
  staticTypes := #[.int, .int, .boolean]
  resolved := Array.replicate 1029 none
  statics := none }

def pool17 : Array CpInfo := pool [(1, .class_ 2), (0, u "java/lang/Math"), (1, .class_ 6), (1, u "java/lang/Object"), (0, u "<init>"), (0, u "()V"), (89, .class_ 100), (1, u "java/lang/Math$RandomNumberGeneratorHolder"), (71, u "negativeZeroFloatBits"), (0, u "J"), (2, u "negativeZeroDoubleBits"), (21, u "max"), (2, u "min"), (43, u "$assertionsDisabled"), (0, u "Z"), (88, u "(II)I"), (2, u "twoToTheDoubleScaleDown"), (0, u "D"), (4, u "twoToTheDoubleScaleUp"), (9, u "E"), (3, u "PI"), (2, u "TAU"), (2, u "DEGREES_TO_RADIANS"), (0, u "RADIANS_TO_DEGREES")] 94

def k17m0 : Method := { name := "<init>", desc := "()V", sig := { parameters := [], returnType := none }, accessFlags := 2, code := none }
def k17c1 : Code := { maxStack := 2, maxLocals := 2, code := jdk_29_method_65_code, exceptionTable := #[], attributes := #[] }
def k17m1 : Method := { name := "max", desc := "(II)I", sig := { parameters := [.int, .int], returnType := some .int }, accessFlags := 9, code := some k17c1 }
def k17c2 : Code := { maxStack := 2, maxLocals := 2, code := jdk_29_method_69_code, exceptionTable := #[], attributes := #[] }
def k17m2 : Method := { name := "min", desc := "(II)I", sig := { parameters := [.int, .int], returnType := some .int }, accessFlags := 9, code := some k17c2 }
/-- java/lang/Math -/
def k17 : Class := { plain "java/lang/Math" (some 0) with
  accessFlags := 49
  interfaces := #[]
  cf := some (fileOf pool17 1 #[.nestMembers #[98]] #[{ accessFlags := 2, nameIndex := 7, descriptorIndex := 8, attributes := #[] }, { accessFlags := 9, nameIndex := 198, descriptorIndex := 335, attributes := #[] }, { accessFlags := 9, nameIndex := 201, descriptorIndex := 335, attributes := #[] }] 49 4 #[] #[{ accessFlags := 25, nameIndex := 354, descriptorIndex := 339, attributes := #[] }, { accessFlags := 25, nameIndex := 358, descriptorIndex := 339, attributes := #[] }, { accessFlags := 25, nameIndex := 361, descriptorIndex := 339, attributes := #[] }, { accessFlags := 26, nameIndex := 364, descriptorIndex := 339, attributes := #[] }, { accessFlags := 26, nameIndex := 365, descriptorIndex := 339, attributes := #[] }, { accessFlags := 26, nameIndex := 172, descriptorIndex := 173, attributes := #[] }, { accessFlags := 26, nameIndex := 176, descriptorIndex := 173, attributes := #[] }, { accessFlags := 8, nameIndex := 344, descriptorIndex := 339, attributes := #[] }, { accessFlags := 8, nameIndex := 338, descriptorIndex := 339, attributes := #[] }, { accessFlags := 4120, nameIndex := 245, descriptorIndex := 246, attributes := #[] }])
  fields := #[{ name := "E", type := .double, accessFlags := 25, slot := 0, constantValue := 0 }, { name := "PI", type := .double, accessFlags := 25, slot := 1, constantValue := 0 }, { name := "TAU", type := .double, accessFlags := 25, slot := 2, constantValue := 0 }, { name := "DEGREES_TO_RADIANS", type := .double, accessFlags := 26, slot := 3, constantValue := 0 }, { name := "RADIANS_TO_DEGREES", type := .double, accessFlags := 26, slot := 4, constantValue := 0 }, { name := "negativeZeroFloatBits", type := .long, accessFlags := 26, slot := 5, constantValue := 0 }, { name := "negativeZeroDoubleBits", type := .long, accessFlags := 26, slot := 6, constantValue := 0 }, { name := "twoToTheDoubleScaleUp", type := .double, accessFlags := 8, slot := 7, constantValue := 0 }, { name := "twoToTheDoubleScaleDown", type := .double, accessFlags := 8, slot := 8, constantValue := 0 }, { name := "$assertionsDisabled", type := .boolean, accessFlags := 4120, slot := 9, constantValue := 0 }]
  methods := #[k17m0, k17m1, k17m2]
  instanceTypes := #[]
  staticTypes := #[.double, .double, .double, .double, .double, .long, .long, .double, .double, .boolean]
  resolved := Array.replicate 460 none
  statics := none }

def pool18 : Array CpInfo := pool [(1, .class_ 2), (0, u "java/lang/String"), (1, .class_ 6), (1, u "java/lang/Object"), (0, u "<init>"), (0, u "()V"), (0, .methodref 1 10), (0, .nameAndType 11 12), (0, u "checkIndex"), (0, u "(II)V"), (1, .class_ 16), (1, u "java/lang/StringLatin1"), (36, u "([BI)C"), (36, u "canEncode"), (14, u "(C)Z"), (15, u "$assertionsDisabled"), (0, u "Z"), (98, .class_ 223), (1, u "java/lang/StringLatin1$LinesSpliterator"), (28, u "charAt"), (127, u "toBytes"), (1, u "(C)[B"), (7, .class_ 391), (0, u "java/lang/StringLatin1$CharsSpliterator")] 3

def k18m0 : Method := { name := "<init>", desc := "()V", sig := { parameters := [], returnType := none }, accessFlags := 0, code := none }
def k18c1 : Code := { maxStack := 2, maxLocals := 2, code := jdk_43_method_2_code, exceptionTable := #[], attributes := #[] }
def k18m1 : Method := { name := "charAt", desc := "([BI)C", sig := { parameters := [(.array .byte), .int], returnType := some .char }, accessFlags := 9, code := some k18c1 }
def k18c2 : Code := { maxStack := 2, maxLocals := 1, code := jdk_43_method_3_code, exceptionTable := #[], attributes := #[] }
def k18m2 : Method := { name := "canEncode", desc := "(C)Z", sig := { parameters := [.char], returnType := some .boolean }, accessFlags := 9, code := some k18c2 }
def k18c3 : Code := { maxStack := 4, maxLocals := 1, code := jdk_43_method_46_code, exceptionTable := #[], attributes := #[] }
def k18m3 : Method := { name := "toBytes", desc := "(C)[B", sig := { parameters := [.char], returnType := some (.array .byte) }, accessFlags := 9, code := some k18c3 }
/-- java/lang/StringLatin1 -/
def k18 : Class := { plain "java/lang/StringLatin1" (some 0) with
  accessFlags := 48
  interfaces := #[]
  cf := some (fileOf pool18 14 #[.nestMembers #[390, 221]] #[{ accessFlags := 0, nameIndex := 7, descriptorIndex := 8, attributes := #[] }, { accessFlags := 9, nameIndex := 252, descriptorIndex := 53, attributes := #[] }, { accessFlags := 9, nameIndex := 90, descriptorIndex := 105, attributes := #[] }, { accessFlags := 9, nameIndex := 380, descriptorIndex := 382, attributes := #[] }] 48 4 #[] #[{ accessFlags := 4120, nameIndex := 121, descriptorIndex := 122, attributes := #[] }])
  fields := #[{ name := "$assertionsDisabled", type := .boolean, accessFlags := 4120, slot := 0, constantValue := 0 }]
  methods := #[k18m0, k18m1, k18m2, k18m3]
  instanceTypes := #[]
  staticTypes := #[.boolean]
  resolved := Array.replicate 395 none
  statics := none }

def pool19 : Array CpInfo := pool [(2, .class_ 4), (1, u "java/lang/Object"), (0, u "<init>"), (0, u "()V"), (17, .class_ 26), (1, u "jdk/internal/util/Preconditions"), (6, u "checkIndex"), (21, .class_ 56), (0, u "jdk/internal/util/Preconditions$4"), (57, .class_ 115), (0, u "jdk/internal/util/Preconditions$1"), (7, u "SIOOBE_FORMATTER"), (0, u "Ljava/util/function/BiFunction;"), (0, .class_ 126), (0, u "jdk/internal/util/Preconditions$2"), (3, u "AIOOBE_FORMATTER"), (0, .class_ 132), (0, u "jdk/internal/util/Preconditions$3"), (3, u "IOOBE_FORMATTER"), (41, u "(IILjava/util/function/BiFunction;)I")] 15

def k19m0 : Method := { name := "<init>", desc := "()V", sig := { parameters := [], returnType := none }, accessFlags := 1, code := none }
def k19c1 : Code := { maxStack := 3, maxLocals := 3, code := jdk_41_method_11_code, exceptionTable := #[], attributes := #[] }
def k19m1 : Method := { name := "checkIndex", desc := "(IILjava/util/function/BiFunction;)I", sig := { parameters := [.int, .int, (.object "java/util/function/BiFunction")], returnType := some .int }, accessFlags := 9, code := some k19c1 }
/-- jdk/internal/util/Preconditions -/
def k19 : Class := { plain "jdk/internal/util/Preconditions" (some 0) with
  accessFlags := 33
  interfaces := #[]
  cf := some (fileOf pool19 24 #[.nestMembers #[55, 131, 125, 114]] #[{ accessFlags := 1, nameIndex := 5, descriptorIndex := 6, attributes := #[] }, { accessFlags := 9, nameIndex := 33, descriptorIndex := 178, attributes := #[] }] 33 2 #[] #[{ accessFlags := 25, nameIndex := 123, descriptorIndex := 124, attributes := #[] }, { accessFlags := 25, nameIndex := 130, descriptorIndex := 124, attributes := #[] }, { accessFlags := 25, nameIndex := 136, descriptorIndex := 124, attributes := #[] }])
  fields := #[{ name := "SIOOBE_FORMATTER", type := (.object "java/util/function/BiFunction"), accessFlags := 25, slot := 0, constantValue := 0 }, { name := "AIOOBE_FORMATTER", type := (.object "java/util/function/BiFunction"), accessFlags := 25, slot := 1, constantValue := 0 }, { name := "IOOBE_FORMATTER", type := (.object "java/util/function/BiFunction"), accessFlags := 25, slot := 2, constantValue := 0 }]
  methods := #[k19m0, k19m1]
  instanceTypes := #[]
  staticTypes := #[(.object "java/util/function/BiFunction"), (.object "java/util/function/BiFunction"), (.object "java/util/function/BiFunction")]
  resolved := Array.replicate 194 none
  statics := some 2 }

def pool20 : Array CpInfo := pool [(6, .class_ 8), (1, u "java/lang/Object"), (0, u "<init>"), (0, u "()V"), (1, .class_ 14), (1, u "java/lang/StringUTF16"), (31, u "$assertionsDisabled"), (0, u "Z"), (13, u "HI_BYTE_SHIFT"), (0, u "I"), (2, u "LO_BYTE_SHIFT"), (49, .methodref 12 116), (0, .nameAndType 117 118), (0, u "compress"), (0, u "([CI[BII)I"), (3, u "([CII)[B"), (138, u "coderFromArrayLen"), (0, u "([BI)B"), (106, .class_ 371), (1, u "java/lang/StringUTF16$LinesSpliterator"), (58, u "MAX_LENGTH"), (196, .class_ 628), (0, u "java/lang/StringUTF16$CodePointsSpliterator"), (0, .class_ 630), (0, u "java/lang/StringUTF16$CharsSpliterator")] 4

def k20m0 : Method := { name := "<init>", desc := "()V", sig := { parameters := [], returnType := none }, accessFlags := 0, code := none }
def k20c1 : Code := { maxStack := 2, maxLocals := 2, code := jdk_52_method_15_code, exceptionTable := #[], attributes := #[] }
def k20m1 : Method := { name := "coderFromArrayLen", desc := "([BI)B", sig := { parameters := [(.array .byte), .int], returnType := some .byte }, accessFlags := 8, code := some k20c1 }
def k20c2 : Code := { maxStack := 5, maxLocals := 6, code := jdk_52_method_16_code, exceptionTable := #[], attributes := #[] }
def k20m2 : Method := { name := "compress", desc := "([CII)[B", sig := { parameters := [(.array .char), .int, .int], returnType := some (.array .byte) }, accessFlags := 9, code := some k20c2 }
def k20c3 : Code := { maxStack := 3, maxLocals := 7, code := jdk_52_method_21_code, exceptionTable := #[], attributes := #[] }
def k20m3 : Method := { name := "compress", desc := "([CI[BII)I", sig := { parameters := [(.array .char), .int, (.array .byte), .int, .int], returnType := some .int }, accessFlags := 9, code := some k20c3 }
/-- java/lang/StringUTF16 -/
def k20 : Class := { plain "java/lang/StringUTF16" (some 0) with
  accessFlags := 48
  interfaces := #[]
  cf := some (fileOf pool20 12 #[.nestMembers #[627, 629, 369]] #[{ accessFlags := 0, nameIndex := 9, descriptorIndex := 10, attributes := #[] }, { accessFlags := 8, nameIndex := 261, descriptorIndex := 262, attributes := #[] }, { accessFlags := 9, nameIndex := 117, descriptorIndex := 122, attributes := #[] }, { accessFlags := 9, nameIndex := 117, descriptorIndex := 118, attributes := #[] }] 48 6 #[] #[{ accessFlags := 26, nameIndex := 61, descriptorIndex := 62, attributes := #[] }, { accessFlags := 26, nameIndex := 65, descriptorIndex := 62, attributes := #[] }, { accessFlags := 24, nameIndex := 430, descriptorIndex := 62, attributes := #[] }, { accessFlags := 4120, nameIndex := 46, descriptorIndex := 47, attributes := #[] }])
  fields := #[{ name := "HI_BYTE_SHIFT", type := .int, accessFlags := 26, slot := 0, constantValue := 0 }, { name := "LO_BYTE_SHIFT", type := .int, accessFlags := 26, slot := 1, constantValue := 0 }, { name := "MAX_LENGTH", type := .int, accessFlags := 24, slot := 2, constantValue := 0 }, { name := "$assertionsDisabled", type := .boolean, accessFlags := 4120, slot := 3, constantValue := 0 }]
  methods := #[k20m0, k20m1, k20m2, k20m3]
  instanceTypes := #[]
  staticTypes := #[.int, .int, .int, .boolean]
  resolved := Array.replicate 635 none
  statics := none }

def pool21 : Array CpInfo := pool [(9, u "<init>"), (6, .class_ 18), (1, u "java/lang/Object"), (0, u "()V"), (1, .class_ 23), (1, u "jdk/internal/util/ArraysSupport"), (0, u "LOG2_ARRAY_LONG_INDEX_SCALE"), (0, u "I"), (2, u "U"), (0, u "Ljdk/internal/misc/Unsafe;"), (8, u "BIG_ENDIAN"), (0, u "Z"), (8, u "LOG2_BYTE_BIT_SIZE"), (4, u "LOG2_ARRAY_INT_INDEX_SCALE"), (54, u "JLA"), (0, u "Ljdk/internal/access/JavaLangAccess;"), (11, u "LOG2_ARRAY_BOOLEAN_INDEX_SCALE"), (9, u "LOG2_ARRAY_BYTE_INDEX_SCALE"), (5, u "LOG2_ARRAY_CHAR_INDEX_SCALE"), (5, u "LOG2_ARRAY_SHORT_INDEX_SCALE"), (18, u "LOG2_ARRAY_FLOAT_INDEX_SCALE"), (24, u "LOG2_ARRAY_DOUBLE_INDEX_SCALE"), (6, .methodref 195 196), (0, .class_ 197), (0, .nameAndType 198 199), (0, u "java/lang/Math"), (0, u "max"), (0, u "(II)I"), (0, .integer 2147483639), (76, u "T_BOOLEAN"), (2, u "T_CHAR"), (1, u "T_FLOAT"), (1, u "T_DOUBLE"), (1, u "T_BYTE"), (1, u "T_SHORT"), (1, u "T_INT"), (1, u "T_LONG"), (1, u "SOFT_MAX_ARRAY_LENGTH"), (56, u "newLength"), (0, u "(III)I")] 25

def k21m0 : Method := { name := "<init>", desc := "()V", sig := { parameters := [], returnType := none }, accessFlags := 2, code := none }
def k21c1 : Code := { maxStack := 3, maxLocals := 4, code := jdk_48_method_27_code, exceptionTable := #[], attributes := #[] }
def k21m1 : Method := { name := "newLength", desc := "(III)I", sig := { parameters := [.int, .int, .int], returnType := some .int }, accessFlags := 9, code := some k21c1 }
/-- jdk/internal/util/ArraysSupport -/
def k21 : Class := { plain "jdk/internal/util/ArraysSupport" (some 0) with
  accessFlags := 33
  interfaces := #[]
  cf := some (fileOf pool21 21 #[] #[{ accessFlags := 2, nameIndex := 9, descriptorIndex := 19, attributes := #[] }, { accessFlags := 9, nameIndex := 351, descriptorIndex := 352, attributes := #[] }] 33 16 #[] #[{ accessFlags := 24, nameIndex := 28, descriptorIndex := 29, attributes := #[] }, { accessFlags := 26, nameIndex := 38, descriptorIndex := 39, attributes := #[] }, { accessFlags := 25, nameIndex := 121, descriptorIndex := 25, attributes := #[] }, { accessFlags := 25, nameIndex := 131, descriptorIndex := 25, attributes := #[] }, { accessFlags := 25, nameIndex := 137, descriptorIndex := 25, attributes := #[] }, { accessFlags := 25, nameIndex := 143, descriptorIndex := 25, attributes := #[] }, { accessFlags := 25, nameIndex := 53, descriptorIndex := 25, attributes := #[] }, { accessFlags := 25, nameIndex := 24, descriptorIndex := 25, attributes := #[] }, { accessFlags := 25, nameIndex := 162, descriptorIndex := 25, attributes := #[] }, { accessFlags := 25, nameIndex := 187, descriptorIndex := 25, attributes := #[] }, { accessFlags := 26, nameIndex := 48, descriptorIndex := 25, attributes := #[] }, { accessFlags := 25, nameIndex := 277, descriptorIndex := 25, attributes := #[] }, { accessFlags := 25, nameIndex := 280, descriptorIndex := 25, attributes := #[] }, { accessFlags := 25, nameIndex := 282, descriptorIndex := 25, attributes := #[] }, { accessFlags := 25, nameIndex := 284, descriptorIndex := 25, attributes := #[] }, { accessFlags := 25, nameIndex := 286, descriptorIndex := 25, attributes := #[] }, { accessFlags := 25, nameIndex := 288, descriptorIndex := 25, attributes := #[] }, { accessFlags := 25, nameIndex := 290, descriptorIndex := 25, attributes := #[] }, { accessFlags := 25, nameIndex := 292, descriptorIndex := 25, attributes := #[] }, { accessFlags := 26, nameIndex := 108, descriptorIndex := 109, attributes := #[] }, { accessFlags := 25, nameIndex := 294, descriptorIndex := 25, attributes := #[] }])
  fields := #[{ name := "U", type := (.object "jdk/internal/misc/Unsafe"), accessFlags := 24, slot := 0, constantValue := 0 }, { name := "BIG_ENDIAN", type := .boolean, accessFlags := 26, slot := 1, constantValue := 0 }, { name := "LOG2_ARRAY_BOOLEAN_INDEX_SCALE", type := .int, accessFlags := 25, slot := 2, constantValue := 0 }, { name := "LOG2_ARRAY_BYTE_INDEX_SCALE", type := .int, accessFlags := 25, slot := 3, constantValue := 0 }, { name := "LOG2_ARRAY_CHAR_INDEX_SCALE", type := .int, accessFlags := 25, slot := 4, constantValue := 0 }, { name := "LOG2_ARRAY_SHORT_INDEX_SCALE", type := .int, accessFlags := 25, slot := 5, constantValue := 0 }, { name := "LOG2_ARRAY_INT_INDEX_SCALE", type := .int, accessFlags := 25, slot := 6, constantValue := 0 }, { name := "LOG2_ARRAY_LONG_INDEX_SCALE", type := .int, accessFlags := 25, slot := 7, constantValue := 0 }, { name := "LOG2_ARRAY_FLOAT_INDEX_SCALE", type := .int, accessFlags := 25, slot := 8, constantValue := 0 }, { name := "LOG2_ARRAY_DOUBLE_INDEX_SCALE", type := .int, accessFlags := 25, slot := 9, constantValue := 0 }, { name := "LOG2_BYTE_BIT_SIZE", type := .int, accessFlags := 26, slot := 10, constantValue := 0 }, { name := "T_BOOLEAN", type := .int, accessFlags := 25, slot := 11, constantValue := 0 }, { name := "T_CHAR", type := .int, accessFlags := 25, slot := 12, constantValue := 0 }, { name := "T_FLOAT", type := .int, accessFlags := 25, slot := 13, constantValue := 0 }, { name := "T_DOUBLE", type := .int, accessFlags := 25, slot := 14, constantValue := 0 }, { name := "T_BYTE", type := .int, accessFlags := 25, slot := 15, constantValue := 0 }, { name := "T_SHORT", type := .int, accessFlags := 25, slot := 16, constantValue := 0 }, { name := "T_INT", type := .int, accessFlags := 25, slot := 17, constantValue := 0 }, { name := "T_LONG", type := .int, accessFlags := 25, slot := 18, constantValue := 0 }, { name := "JLA", type := (.object "jdk/internal/access/JavaLangAccess"), accessFlags := 26, slot := 19, constantValue := 0 }, { name := "SOFT_MAX_ARRAY_LENGTH", type := .int, accessFlags := 25, slot := 20, constantValue := 0 }]
  methods := #[k21m0, k21m1]
  instanceTypes := #[]
  staticTypes := #[(.object "jdk/internal/misc/Unsafe"), .boolean, .int, .int, .int, .int, .int, .int, .int, .int, .int, .int, .int, .int, .int, .int, .int, .int, .int, (.object "jdk/internal/access/JavaLangAccess"), .int]
  resolved := Array.replicate 378 none
  statics := none }

def pool22 : Array CpInfo := pool [(1, .class_ 2), (0, u "java/lang/Cloneable"), (0, .class_ 4), (0, u "java/lang/Object")] 2

/-- java/lang/Cloneable -/
def k22 : Class := { plain "java/lang/Cloneable" (some 0) with
  accessFlags := 1537
  interfaces := #[]
  cf := some (fileOf pool22 1 #[] #[] 1537 3 #[] #[])
  fields := #[]
  methods := #[]
  instanceTypes := #[]
  staticTypes := #[]
  resolved := Array.replicate 7 none
  statics := none }

/-- the primitive byte -/
def k23 : Class := { plain "byte" none with kind := .primitive 'B', accessFlags := 0x411 }
/-- [B -/
def k24 : Class := { plain "[B" (some 0) with kind := .array 23 .byte, interfaces := #[22, 2], accessFlags := 1041 }

/-- the primitive char -/
def k25 : Class := { plain "char" none with kind := .primitive 'C', accessFlags := 0x411 }
/-- [C -/
def k26 : Class := { plain "[C" (some 0) with kind := .array 25 .char, interfaces := #[22, 2], accessFlags := 1041 }

/-- the primitive int -/
def k27 : Class := { plain "int" none with kind := .primitive 'I', accessFlags := 0x411 }
/-- [I -/
def k28 : Class := { plain "[I" (some 0) with kind := .array 27 .int, interfaces := #[22, 2], accessFlags := 1041 }

/-- the primitive long -/
def k29 : Class := { plain "long" none with kind := .primitive 'J', accessFlags := 0x411 }
/-- [J -/
def k30 : Class := { plain "[J" (some 0) with kind := .array 29 .long, interfaces := #[22, 2], accessFlags := 1041 }

def heap : Heap := #[{ cls := 7, slots := #[.long 0, .int 1, .null, .int 0, .null, .int 0, .int 0], vm := .statics 7 },
  { cls := 15, slots := #[.int 0, .int 0, .null, .null, .ref 4, .ref 3, .int 0, .int 0, .long 0], vm := .statics 15 },
  { cls := 19, slots := #[.null, .null, .null], vm := .statics 19 },
  { cls := 24, slots := #[.int 48, .int 49, .int 50, .int 51, .int 52, .int 53, .int 54, .int 55, .int 56, .int 57, .int 48, .int 49, .int 50, .int 51, .int 52, .int 53, .int 54, .int 55, .int 56, .int 57, .int 48, .int 49, .int 50, .int 51, .int 52, .int 53, .int 54, .int 55, .int 56, .int 57, .int 48, .int 49, .int 50, .int 51, .int 52, .int 53, .int 54, .int 55, .int 56, .int 57, .int 48, .int 49, .int 50, .int 51, .int 52, .int 53, .int 54, .int 55, .int 56, .int 57, .int 48, .int 49, .int 50, .int 51, .int 52, .int 53, .int 54, .int 55, .int 56, .int 57, .int 48, .int 49, .int 50, .int 51, .int 52, .int 53, .int 54, .int 55, .int 56, .int 57, .int 48, .int 49, .int 50, .int 51, .int 52, .int 53, .int 54, .int 55, .int 56, .int 57, .int 48, .int 49, .int 50, .int 51, .int 52, .int 53, .int 54, .int 55, .int 56, .int 57, .int 48, .int 49, .int 50, .int 51, .int 52, .int 53, .int 54, .int 55, .int 56, .int 57], vm := .none },
  { cls := 24, slots := #[.int 48, .int 48, .int 48, .int 48, .int 48, .int 48, .int 48, .int 48, .int 48, .int 48, .int 49, .int 49, .int 49, .int 49, .int 49, .int 49, .int 49, .int 49, .int 49, .int 49, .int 50, .int 50, .int 50, .int 50, .int 50, .int 50, .int 50, .int 50, .int 50, .int 50, .int 51, .int 51, .int 51, .int 51, .int 51, .int 51, .int 51, .int 51, .int 51, .int 51, .int 52, .int 52, .int 52, .int 52, .int 52, .int 52, .int 52, .int 52, .int 52, .int 52, .int 53, .int 53, .int 53, .int 53, .int 53, .int 53, .int 53, .int 53, .int 53, .int 53, .int 54, .int 54, .int 54, .int 54, .int 54, .int 54, .int 54, .int 54, .int 54, .int 54, .int 55, .int 55, .int 55, .int 55, .int 55, .int 55, .int 55, .int 55, .int 55, .int 55, .int 56, .int 56, .int 56, .int 56, .int 56, .int 56, .int 56, .int 56, .int 56, .int 56, .int 57, .int 57, .int 57, .int 57, .int 57, .int 57, .int 57, .int 57, .int 57, .int 57], vm := .none }]
def classes : Array Class := #[k0, k1, k2, k3, k4, k5, k6, k7, k8, k9, k10, k11, k12, k13, k14, k15, k16, k17, k18, k19, k20, k21, k22, k23, k24, k25, k26, k27, k28, k29, k30]
def interned : List (Array UInt16 × Addr) := []
def slotsUsed : Nat := 219
def theMethod : MethodId := ⟨1, 4⟩
def args0 : Array Value := #[.int 7, .int 66, .int 79, .int 3, .int 65]
def aboutOver (below : List Frame) : State where
  vm := { classes := classes, interned := interned.toArray }
  heap := heap
  slotsUsed := slotsUsed
  threads := #[{ frames := .invoking theMethod args0 :: below }]
def below0 : List Frame := [.native { method := ⟨0, 0⟩, args := #[] }]
def about1 : State := aboutOver below0
def p0 : Program := .bare "" "" ""
def e0 : Env := launch0.env 0 0 0
theorem w_frames : about1.frames = Frame.invoking theMethod args0 :: below0 := rfl
set_option maxRecDepth 65536 in
theorem w_args : argsFit about1.vm theMethod args0 = true := by decide +kernel
set_option maxRecDepth 65536 in
theorem w_heap : heapFits about1 = true := by decide +kernel
set_option maxRecDepth 65536 in
theorem w_runnable : about1.curStatus? = some .runnable := by decide +kernel
set_option maxRecDepth 65536 in
theorem w_alone : about1.alone = true := by decide +kernel
set_option maxRecDepth 65536 in
theorem w_named : about1.methodNamed? x = some theMethod := by decide +kernel
set_option maxRecDepth 65536 in
theorem w_hears : about1.hears theMethod below0 = true := by decide +kernel
set_option maxRecDepth 65536 in
theorem w_ripe : about1.ripe theMethod args0 below0 = true := by decide +kernel
theorem w_running : about1.status = .running := rfl
set_option maxRecDepth 65536 in
theorem w_room : about1.hasRoom e0.platform room_1 = true :=
  launch0.hasRoom_least _ room_1 (by decide +kernel) (by decide +kernel) (by decide +kernel) (by decide +kernel) (by decide +kernel) (by decide +kernel)
theorem allAtoms_all (ts : List Jvm.Cond) (a : Array Jvm.Value) (st : Jvm.State) : (allAtoms ts).before a st = ts.all (fun c => c.before a st) := by
  induction ts with
  | nil => rfl
  | cons c t ih =>
    show (Jvm.Cond.and c (allAtoms t)).before a st = _
    rw [Jvm.Cond.before_and, ih, List.all_cons]
def words1 : List Jvm.Cond := Jvm.Cond.code x code maxLocals ret :: tables_1
/-- a 'code' word, met by the world's own term for the bytes: nothing is compared byte by byte -/
theorem code_word {y : MethodName} {bytes : ByteArray} {mx : Nat} {rt : Option FieldType} {a : Array Value} {s : State} {m : MethodId} {meth : Method} {c : Code} (h1 : s.methodNamed? y = some m) (h2 : s.vm.method? m = some meth) (h3 : meth.code = some c) (h4 : c.code = bytes)
    (h5 : (c.maxLocals == mx && c.exceptionTable.isEmpty && decide (c.maxStack ≤ mostOperands) && decide (meth.sig.returnType = rt) && !meth.locks && decide (parseMethodDescriptor y.desc = some meth.sig)) = true) : (Jvm.Cond.code y bytes mx rt).before a s = true := by
  simp only [Bool.and_eq_true, beq_iff_eq, Bool.not_eq_true', decide_eq_true_eq] at h5
  obtain ⟨⟨⟨⟨⟨g1, g2⟩, g3⟩, g4⟩, g5⟩, g6⟩ := h5
  simp [Cond.before, Cond.holds, Cond.value, h1, h2, h3, h4, g1, g2, g3, g4, g5, g6]
def isCode : Jvm.Cond → Bool
  | .code _ _ _ _ => true
  | _ => false
theorem all_split {L : List Jvm.Cond} {P : Jvm.Cond → Bool} (h1 : L.all (fun c => isCode c || P c) = true) (h2 : ∀ c ∈ L.filter isCode, P c = true) : L.all P = true := by
  refine List.all_eq_true.mpr fun c hc => ?_
  have h := List.all_eq_true.mp h1 c hc
  rcases Bool.eq_false_or_eq_true (isCode c) with hi | hi
  · exact h2 c (List.mem_filter.mpr ⟨hc, hi⟩)
  · simpa [hi] using h
set_option maxRecDepth 65536 in
theorem w_c0 : (Jvm.Cond.code x code maxLocals ret).before args0 about1 = true := code_word (m := ⟨1, 4⟩) (meth := k1m4) (c := k1c4) (by decide +kernel) rfl rfl rfl (by decide +kernel)
set_option maxRecDepth 65536 in
theorem w_c1 : (Jvm.Cond.code ({ cls := "java/lang/String", name := "<init>", desc := "([C)V" } : Jvm.MethodName) jdk_42_method_3_code (2 : Nat) (Option.none : Option Jvm.ClassFile.FieldType)).before args0 about1 = true := code_word (m := ⟨7, 1⟩) (meth := k7m1) (c := k7c1) (by decide +kernel) rfl rfl rfl (by decide +kernel)
set_option maxRecDepth 65536 in
theorem w_c2 : (Jvm.Cond.code ({ cls := "java/lang/String", name := "<init>", desc := "([CIILjava/lang/Void;)V" } : Jvm.MethodName) jdk_42_method_149_code (6 : Nat) (Option.none : Option Jvm.ClassFile.FieldType)).before args0 about1 = true := code_word (m := ⟨7, 7⟩) (meth := k7m7) (c := k7c7) (by decide +kernel) rfl rfl rfl (by decide +kernel)
set_option maxRecDepth 65536 in
theorem w_c3 : (Jvm.Cond.code ({ cls := "java/lang/Object", name := "<init>", desc := "()V" } : Jvm.MethodName) object_method_1_code (1 : Nat) (Option.none : Option Jvm.ClassFile.FieldType)).before args0 about1 = true := code_word (m := ⟨0, 0⟩) (meth := k0m0) (c := k0c0) (by decide +kernel) rfl rfl rfl (by decide +kernel)
set_option maxRecDepth 65536 in
theorem w_c4 : (Jvm.Cond.code ({ cls := "com/example/fastpath/fastpath/settings/RedisServer", name := "<init>", desc := "(ZLjava/lang/String;ILjava/lang/String;Ljava/lang/String;I)V" } : Jvm.MethodName) prog_20_method_1_code (7 : Nat) (Option.none : Option Jvm.ClassFile.FieldType)).before args0 about1 = true := code_word (m := ⟨9, 0⟩) (meth := k9m0) (c := k9c0) (by decide +kernel) rfl rfl rfl (by decide +kernel)
set_option maxRecDepth 65536 in
theorem w_c5 : (Jvm.Cond.code ({ cls := "java/lang/Record", name := "<init>", desc := "()V" } : Jvm.MethodName) jdk_30_method_1_code (1 : Nat) (Option.none : Option Jvm.ClassFile.FieldType)).before args0 about1 = true := code_word (m := ⟨8, 0⟩) (meth := k8m0) (c := k8c0) (by decide +kernel) rfl rfl rfl (by decide +kernel)
set_option maxRecDepth 65536 in
theorem w_c6 : (Jvm.Cond.code ({ cls := "com/example/fastpath/fastpath/settings/RedisServer", name := "toString", desc := "()Ljava/lang/String;" } : Jvm.MethodName) prog_20_method_2_code (3 : Nat) (Option.some (Jvm.ClassFile.FieldType.object "java/lang/String"))).before args0 about1 = true := code_word (m := ⟨9, 1⟩) (meth := k9m1) (c := k9c1) (by decide +kernel) rfl rfl rfl (by decide +kernel)
set_option maxRecDepth 65536 in
theorem w_c7 : (Jvm.Cond.code ({ cls := "java/lang/StringBuilder", name := "<init>", desc := "()V" } : Jvm.MethodName) jdk_67_method_1_code (1 : Nat) (Option.none : Option Jvm.ClassFile.FieldType)).before args0 about1 = true := code_word (m := ⟨12, 0⟩) (meth := k12m0) (c := k12c0) (by decide +kernel) rfl rfl rfl (by decide +kernel)
set_option maxRecDepth 65536 in
theorem w_c8 : (Jvm.Cond.code ({ cls := "java/lang/AbstractStringBuilder", name := "<init>", desc := "(I)V" } : Jvm.MethodName) jdk_68_method_2_code (2 : Nat) (Option.none : Option Jvm.ClassFile.FieldType)).before args0 about1 = true := code_word (m := ⟨11, 1⟩) (meth := k11m1) (c := k11c1) (by decide +kernel) rfl rfl rfl (by decide +kernel)
set_option maxRecDepth 65536 in
theorem w_c9 : (Jvm.Cond.code ({ cls := "java/lang/StringBuilder", name := "append", desc := "(Ljava/lang/String;)Ljava/lang/StringBuilder;" } : Jvm.MethodName) jdk_67_method_7_code (2 : Nat) (Option.some (Jvm.ClassFile.FieldType.object "java/lang/StringBuilder"))).before args0 about1 = true := code_word (m := ⟨12, 1⟩) (meth := k12m1) (c := k12c1) (by decide +kernel) rfl rfl rfl (by decide +kernel)
set_option maxRecDepth 65536 in
theorem w_c10 : (Jvm.Cond.code ({ cls := "java/lang/AbstractStringBuilder", name := "append", desc := "(Ljava/lang/String;)Ljava/lang/AbstractStringBuilder;" } : Jvm.MethodName) jdk_68_method_22_code (3 : Nat) (Option.some (Jvm.ClassFile.FieldType.object "java/lang/AbstractStringBuilder"))).before args0 about1 = true := code_word (m := ⟨11, 5⟩) (meth := k11m5) (c := k11c5) (by decide +kernel) rfl rfl rfl (by decide +kernel)
set_option maxRecDepth 65536 in
theorem w_c11 : (Jvm.Cond.code ({ cls := "java/lang/String", name := "length", desc := "()I" } : Jvm.MethodName) jdk_42_method_54_code (1 : Nat) (Option.some Jvm.ClassFile.FieldType.int)).before args0 about1 = true := code_word (m := ⟨7, 3⟩) (meth := k7m3) (c := k7c3) (by decide +kernel) rfl rfl rfl (by decide +kernel)
set_option maxRecDepth 65536 in
theorem w_c12 : (Jvm.Cond.code ({ cls := "java/lang/String", name := "coder", desc := "()B" } : Jvm.MethodName) jdk_42_method_152_code (1 : Nat) (Option.some Jvm.ClassFile.FieldType.byte)).before args0 about1 = true := code_word (m := ⟨7, 10⟩) (meth := k7m10) (c := k7c10) (by decide +kernel) rfl rfl rfl (by decide +kernel)
set_option maxRecDepth 65536 in
theorem w_c13 : (Jvm.Cond.code ({ cls := "java/lang/AbstractStringBuilder", name := "ensureCapacityInternal", desc := "(I)V" } : Jvm.MethodName) jdk_68_method_9_code (3 : Nat) (Option.none : Option Jvm.ClassFile.FieldType)).before args0 about1 = true := code_word (m := ⟨11, 3⟩) (meth := k11m3) (c := k11c3) (by decide +kernel) rfl rfl rfl (by decide +kernel)
set_option maxRecDepth 65536 in
theorem w_c14 : (Jvm.Cond.code ({ cls := "java/lang/AbstractStringBuilder", name := "putStringAt", desc := "(ILjava/lang/String;)V" } : Jvm.MethodName) jdk_68_method_73_code (3 : Nat) (Option.none : Option Jvm.ClassFile.FieldType)).before args0 about1 = true := code_word (m := ⟨11, 10⟩) (meth := k11m10) (c := k11c10) (by decide +kernel) rfl rfl rfl (by decide +kernel)
set_option maxRecDepth 65536 in
theorem w_c15 : (Jvm.Cond.code ({ cls := "java/lang/AbstractStringBuilder", name := "inflateIfNeededFor", desc := "(Ljava/lang/String;)V" } : Jvm.MethodName) jdk_68_method_71_code (2 : Nat) (Option.none : Option Jvm.ClassFile.FieldType)).before args0 about1 = true := code_word (m := ⟨11, 9⟩) (meth := k11m9) (c := k11c9) (by decide +kernel) rfl rfl rfl (by decide +kernel)
set_option maxRecDepth 65536 in
theorem w_c16 : (Jvm.Cond.code ({ cls := "java/lang/String", name := "getBytes", desc := "([BIB)V" } : Jvm.MethodName) jdk_42_method_147_code (4 : Nat) (Option.none : Option Jvm.ClassFile.FieldType)).before args0 about1 = true := code_word (m := ⟨7, 6⟩) (meth := k7m6) (c := k7c6) (by decide +kernel) rfl rfl rfl (by decide +kernel)
set_option maxRecDepth 65536 in
theorem w_c17 : (Jvm.Cond.code ({ cls := "java/lang/StringBuilder", name := "append", desc := "(I)Ljava/lang/StringBuilder;" } : Jvm.MethodName) jdk_67_method_15_code (2 : Nat) (Option.some (Jvm.ClassFile.FieldType.object "java/lang/StringBuilder"))).before args0 about1 = true := code_word (m := ⟨12, 2⟩) (meth := k12m2) (c := k12c2) (by decide +kernel) rfl rfl rfl (by decide +kernel)
set_option maxRecDepth 65536 in
theorem w_c18 : (Jvm.Cond.code ({ cls := "java/lang/AbstractStringBuilder", name := "append", desc := "(I)Ljava/lang/AbstractStringBuilder;" } : Jvm.MethodName) jdk_68_method_32_code (4 : Nat) (Option.some (Jvm.ClassFile.FieldType.object "java/lang/AbstractStringBuilder"))).before args0 about1 = true := code_word (m := ⟨11, 6⟩) (meth := k11m6) (c := k11c6) (by decide +kernel) rfl rfl rfl (by decide +kernel)
set_option maxRecDepth 65536 in
theorem w_c19 : (Jvm.Cond.code ({ cls := "java/lang/Integer", name := "stringSize", desc := "(I)I" } : Jvm.MethodName) jdk_33_method_13_code (4 : Nat) (Option.some Jvm.ClassFile.FieldType.int)).before args0 about1 = true := code_word (m := ⟨15, 1⟩) (meth := k15m1) (c := k15c1) (by decide +kernel) rfl rfl rfl (by decide +kernel)
set_option maxRecDepth 65536 in
theorem w_c20 : (Jvm.Cond.code ({ cls := "java/lang/AbstractStringBuilder", name := "isLatin1", desc := "()Z" } : Jvm.MethodName) jdk_68_method_68_code (1 : Nat) (Option.some Jvm.ClassFile.FieldType.boolean)).before args0 about1 = true := code_word (m := ⟨11, 8⟩) (meth := k11m8) (c := k11c8) (by decide +kernel) rfl rfl rfl (by decide +kernel)
set_option maxRecDepth 65536 in
theorem w_c21 : (Jvm.Cond.code ({ cls := "java/lang/Integer", name := "getChars", desc := "(II[B)I" } : Jvm.MethodName) jdk_33_method_12_code (7 : Nat) (Option.some Jvm.ClassFile.FieldType.int)).before args0 about1 = true := code_word (m := ⟨15, 0⟩) (meth := k15m0) (c := k15c0) (by decide +kernel) rfl rfl rfl (by decide +kernel)
set_option maxRecDepth 65536 in
theorem w_c22 : (Jvm.Cond.code ({ cls := "java/lang/StringBuilder", name := "toString", desc := "()Ljava/lang/String;" } : Jvm.MethodName) jdk_67_method_42_code (1 : Nat) (Option.some (Jvm.ClassFile.FieldType.object "java/lang/String"))).before args0 about1 = true := code_word (m := ⟨12, 3⟩) (meth := k12m3) (c := k12c3) (by decide +kernel) rfl rfl rfl (by decide +kernel)
set_option maxRecDepth 65536 in
theorem w_c23 : (Jvm.Cond.code ({ cls := "java/lang/String", name := "<init>", desc := "(Ljava/lang/StringBuilder;)V" } : Jvm.MethodName) jdk_42_method_53_code (2 : Nat) (Option.none : Option Jvm.ClassFile.FieldType)).before args0 about1 = true := code_word (m := ⟨7, 2⟩) (meth := k7m2) (c := k7c2) (by decide +kernel) rfl rfl rfl (by decide +kernel)
set_option maxRecDepth 65536 in
theorem w_c24 : (Jvm.Cond.code ({ cls := "java/lang/String", name := "<init>", desc := "(Ljava/lang/AbstractStringBuilder;Ljava/lang/Void;)V" } : Jvm.MethodName) jdk_42_method_150_code (5 : Nat) (Option.none : Option Jvm.ClassFile.FieldType)).before args0 about1 = true := code_word (m := ⟨7, 8⟩) (meth := k7m8) (c := k7c8) (by decide +kernel) rfl rfl rfl (by decide +kernel)
set_option maxRecDepth 65536 in
theorem w_c25 : (Jvm.Cond.code ({ cls := "java/lang/AbstractStringBuilder", name := "getValue", desc := "()[B" } : Jvm.MethodName) jdk_68_method_64_code (1 : Nat) (Option.some (Jvm.ClassFile.FieldType.array Jvm.ClassFile.FieldType.byte))).before args0 about1 = true := code_word (m := ⟨11, 7⟩) (meth := k11m7) (c := k11c7) (by decide +kernel) rfl rfl rfl (by decide +kernel)
set_option maxRecDepth 65536 in
theorem w_c26 : (Jvm.Cond.code ({ cls := "java/lang/StringBuilder", name := "length", desc := "()I" } : Jvm.MethodName) jdk_67_method_93_code (1 : Nat) (Option.some Jvm.ClassFile.FieldType.int)).before args0 about1 = true := code_word (m := ⟨12, 4⟩) (meth := k12m4) (c := k12c4) (by decide +kernel) rfl rfl rfl (by decide +kernel)
set_option maxRecDepth 65536 in
theorem w_c27 : (Jvm.Cond.code ({ cls := "java/lang/AbstractStringBuilder", name := "length", desc := "()I" } : Jvm.MethodName) jdk_68_method_6_code (1 : Nat) (Option.some Jvm.ClassFile.FieldType.int)).before args0 about1 = true := code_word (m := ⟨11, 2⟩) (meth := k11m2) (c := k11c2) (by decide +kernel) rfl rfl rfl (by decide +kernel)
set_option maxRecDepth 65536 in
theorem w_c28 : (Jvm.Cond.code ({ cls := "java/util/Arrays", name := "copyOfRange", desc := "([BII)[B" } : Jvm.MethodName) jdk_65_method_132_code (3 : Nat) (Option.some (Jvm.ClassFile.FieldType.array Jvm.ClassFile.FieldType.byte))).before args0 about1 = true := code_word (m := ⟨16, 3⟩) (meth := k16m3) (c := k16c3) (by decide +kernel) rfl rfl rfl (by decide +kernel)
set_option maxRecDepth 65536 in
theorem w_c29 : (Jvm.Cond.code ({ cls := "java/util/Arrays", name := "copyOfRangeByte", desc := "([BII)[B" } : Jvm.MethodName) jdk_65_method_133_code (5 : Nat) (Option.some (Jvm.ClassFile.FieldType.array Jvm.ClassFile.FieldType.byte))).before args0 about1 = true := code_word (m := ⟨16, 4⟩) (meth := k16m4) (c := k16c4) (by decide +kernel) rfl rfl rfl (by decide +kernel)
set_option maxRecDepth 65536 in
theorem w_c30 : (Jvm.Cond.code ({ cls := "java/util/Arrays", name := "checkLength", desc := "(II)V" } : Jvm.MethodName) jdk_65_method_131_code (2 : Nat) (Option.none : Option Jvm.ClassFile.FieldType)).before args0 about1 = true := code_word (m := ⟨16, 2⟩) (meth := k16m2) (c := k16c2) (by decide +kernel) rfl rfl rfl (by decide +kernel)
set_option maxRecDepth 65536 in
theorem w_c31 : (Jvm.Cond.code ({ cls := "java/lang/Math", name := "min", desc := "(II)I" } : Jvm.MethodName) jdk_29_method_69_code (2 : Nat) (Option.some Jvm.ClassFile.FieldType.int)).before args0 about1 = true := code_word (m := ⟨17, 2⟩) (meth := k17m2) (c := k17c2) (by decide +kernel) rfl rfl rfl (by decide +kernel)
set_option maxRecDepth 65536 in
theorem w_c32 : (Jvm.Cond.code ({ cls := "com/example/fastpath/fastpath/settings/RedisServerToStringPinLaw", name := "lit", desc := "(Ljava/lang/String;IC)I" } : Jvm.MethodName) method_2_code (3 : Nat) (Option.some Jvm.ClassFile.FieldType.int)).before args0 about1 = true := code_word (m := ⟨1, 1⟩) (meth := k1m1) (c := k1c1) (by decide +kernel) rfl rfl rfl (by decide +kernel)
set_option maxRecDepth 65536 in
theorem w_c33 : (Jvm.Cond.code ({ cls := "java/lang/String", name := "charAt", desc := "(I)C" } : Jvm.MethodName) jdk_42_method_56_code (2 : Nat) (Option.some Jvm.ClassFile.FieldType.char)).before args0 about1 = true := code_word (m := ⟨7, 4⟩) (meth := k7m4) (c := k7c4) (by decide +kernel) rfl rfl rfl (by decide +kernel)
set_option maxRecDepth 65536 in
theorem w_c34 : (Jvm.Cond.code ({ cls := "java/lang/String", name := "isLatin1", desc := "()Z" } : Jvm.MethodName) jdk_42_method_154_code (1 : Nat) (Option.some Jvm.ClassFile.FieldType.boolean)).before args0 about1 = true := code_word (m := ⟨7, 11⟩) (meth := k7m11) (c := k7c11) (by decide +kernel) rfl rfl rfl (by decide +kernel)
set_option maxRecDepth 65536 in
theorem w_c35 : (Jvm.Cond.code ({ cls := "java/lang/StringLatin1", name := "charAt", desc := "([BI)C" } : Jvm.MethodName) jdk_43_method_2_code (2 : Nat) (Option.some Jvm.ClassFile.FieldType.char)).before args0 about1 = true := code_word (m := ⟨18, 1⟩) (meth := k18m1) (c := k18c1) (by decide +kernel) rfl rfl rfl (by decide +kernel)
set_option maxRecDepth 65536 in
theorem w_c36 : (Jvm.Cond.code ({ cls := "java/lang/String", name := "checkIndex", desc := "(II)V" } : Jvm.MethodName) jdk_42_method_155_code (2 : Nat) (Option.none : Option Jvm.ClassFile.FieldType)).before args0 about1 = true := code_word (m := ⟨7, 12⟩) (meth := k7m12) (c := k7c12) (by decide +kernel) rfl rfl rfl (by decide +kernel)
set_option maxRecDepth 65536 in
theorem w_c37 : (Jvm.Cond.code ({ cls := "jdk/internal/util/Preconditions", name := "checkIndex", desc := "(IILjava/util/function/BiFunction;)I" } : Jvm.MethodName) jdk_41_method_11_code (3 : Nat) (Option.some Jvm.ClassFile.FieldType.int)).before args0 about1 = true := code_word (m := ⟨19, 1⟩) (meth := k19m1) (c := k19c1) (by decide +kernel) rfl rfl rfl (by decide +kernel)
set_option maxRecDepth 65536 in
theorem w_c38 : (Jvm.Cond.code ({ cls := "com/example/fastpath/fastpath/settings/RedisServerToStringPinLaw", name := "num", desc := "(Ljava/lang/String;II)I" } : Jvm.MethodName) method_4_code (5 : Nat) (Option.some Jvm.ClassFile.FieldType.int)).before args0 about1 = true := code_word (m := ⟨1, 3⟩) (meth := k1m3) (c := k1c3) (by decide +kernel) rfl rfl rfl (by decide +kernel)
set_option maxRecDepth 65536 in
theorem w_c39 : (Jvm.Cond.code ({ cls := "com/example/fastpath/fastpath/settings/RedisServerToStringPinLaw", name := "dig", desc := "(Ljava/lang/String;IIII[J)Z" } : Jvm.MethodName) method_3_code (9 : Nat) (Option.some Jvm.ClassFile.FieldType.boolean)).before args0 about1 = true := code_word (m := ⟨1, 2⟩) (meth := k1m2) (c := k1c2) (by decide +kernel) rfl rfl rfl (by decide +kernel)
set_option maxRecDepth 65536 in
theorem w_c40 : (Jvm.Cond.code ({ cls := "java/lang/StringUTF16", name := "compress", desc := "([CII)[B" } : Jvm.MethodName) jdk_52_method_16_code (6 : Nat) (Option.some (Jvm.ClassFile.FieldType.array Jvm.ClassFile.FieldType.byte))).before args0 about1 = true := code_word (m := ⟨20, 2⟩) (meth := k20m2) (c := k20c2) (by decide +kernel) rfl rfl rfl (by decide +kernel)
set_option maxRecDepth 65536 in
theorem w_c41 : (Jvm.Cond.code ({ cls := "java/lang/StringUTF16", name := "compress", desc := "([CI[BII)I" } : Jvm.MethodName) jdk_52_method_21_code (7 : Nat) (Option.some Jvm.ClassFile.FieldType.int)).before args0 about1 = true := code_word (m := ⟨20, 3⟩) (meth := k20m3) (c := k20c3) (by decide +kernel) rfl rfl rfl (by decide +kernel)
set_option maxRecDepth 65536 in
theorem w_c42 : (Jvm.Cond.code ({ cls := "java/lang/StringUTF16", name := "coderFromArrayLen", desc := "([BI)B" } : Jvm.MethodName) jdk_52_method_15_code (2 : Nat) (Option.some Jvm.ClassFile.FieldType.byte)).before args0 about1 = true := code_word (m := ⟨20, 1⟩) (meth := k20m1) (c := k20c1) (by decide +kernel) rfl rfl rfl (by decide +kernel)
set_option maxRecDepth 65536 in
theorem w_c43 : (Jvm.Cond.code ({ cls := "java/lang/AbstractStringBuilder", name := "newCapacity", desc := "(I)I" } : Jvm.MethodName) jdk_68_method_10_code (6 : Nat) (Option.some Jvm.ClassFile.FieldType.int)).before args0 about1 = true := code_word (m := ⟨11, 4⟩) (meth := k11m4) (c := k11c4) (by decide +kernel) rfl rfl rfl (by decide +kernel)
set_option maxRecDepth 65536 in
theorem w_c44 : (Jvm.Cond.code ({ cls := "jdk/internal/util/ArraysSupport", name := "newLength", desc := "(III)I" } : Jvm.MethodName) jdk_48_method_27_code (4 : Nat) (Option.some Jvm.ClassFile.FieldType.int)).before args0 about1 = true := code_word (m := ⟨21, 1⟩) (meth := k21m1) (c := k21c1) (by decide +kernel) rfl rfl rfl (by decide +kernel)
set_option maxRecDepth 65536 in
theorem w_c45 : (Jvm.Cond.code ({ cls := "java/lang/Math", name := "max", desc := "(II)I" } : Jvm.MethodName) jdk_29_method_65_code (2 : Nat) (Option.some Jvm.ClassFile.FieldType.int)).before args0 about1 = true := code_word (m := ⟨17, 1⟩) (meth := k17m1) (c := k17c1) (by decide +kernel) rfl rfl rfl (by decide +kernel)
set_option maxRecDepth 65536 in
theorem w_c46 : (Jvm.Cond.code ({ cls := "java/util/Arrays", name := "copyOf", desc := "([BI)[B" } : Jvm.MethodName) jdk_65_method_121_code (3 : Nat) (Option.some (Jvm.ClassFile.FieldType.array Jvm.ClassFile.FieldType.byte))).before args0 about1 = true := code_word (m := ⟨16, 1⟩) (meth := k16m1) (c := k16c1) (by decide +kernel) rfl rfl rfl (by decide +kernel)
set_option maxRecDepth 65536 in
theorem w_c47 : (Jvm.Cond.code ({ cls := "java/lang/String", name := "valueOf", desc := "(C)Ljava/lang/String;" } : Jvm.MethodName) jdk_42_method_139_code (1 : Nat) (Option.some (Jvm.ClassFile.FieldType.object "java/lang/String"))).before args0 about1 = true := code_word (m := ⟨7, 5⟩) (meth := k7m5) (c := k7c5) (by decide +kernel) rfl rfl rfl (by decide +kernel)
set_option maxRecDepth 65536 in
theorem w_c48 : (Jvm.Cond.code ({ cls := "java/lang/StringLatin1", name := "canEncode", desc := "(C)Z" } : Jvm.MethodName) jdk_43_method_3_code (1 : Nat) (Option.some Jvm.ClassFile.FieldType.boolean)).before args0 about1 = true := code_word (m := ⟨18, 2⟩) (meth := k18m2) (c := k18c2) (by decide +kernel) rfl rfl rfl (by decide +kernel)
set_option maxRecDepth 65536 in
theorem w_c49 : (Jvm.Cond.code ({ cls := "java/lang/StringLatin1", name := "toBytes", desc := "(C)[B" } : Jvm.MethodName) jdk_43_method_46_code (1 : Nat) (Option.some (Jvm.ClassFile.FieldType.array Jvm.ClassFile.FieldType.byte))).before args0 about1 = true := code_word (m := ⟨18, 3⟩) (meth := k18m3) (c := k18c3) (by decide +kernel) rfl rfl rfl (by decide +kernel)
set_option maxRecDepth 65536 in
theorem w_c50 : (Jvm.Cond.code ({ cls := "java/lang/String", name := "<init>", desc := "([BB)V" } : Jvm.MethodName) jdk_42_method_151_code (3 : Nat) (Option.none : Option Jvm.ClassFile.FieldType)).before args0 about1 = true := code_word (m := ⟨7, 9⟩) (meth := k7m9) (c := k7c9) (by decide +kernel) rfl rfl rfl (by decide +kernel)
def codes1 : List Jvm.Cond := [Jvm.Cond.code x code maxLocals ret, Jvm.Cond.code ({ cls := "java/lang/String", name := "<init>", desc := "([C)V" } : Jvm.MethodName) jdk_42_method_3_code (2 : Nat) (Option.none : Option Jvm.ClassFile.FieldType), Jvm.Cond.code ({ cls := "java/lang/String", name := "<init>", desc := "([CIILjava/lang/Void;)V" } : Jvm.MethodName) jdk_42_method_149_code (6 : Nat) (Option.none : Option Jvm.ClassFile.FieldType), Jvm.Cond.code ({ cls := "java/lang/Object", name := "<init>", desc := "()V" } : Jvm.MethodName) object_method_1_code (1 : Nat) (Option.none : Option Jvm.ClassFile.FieldType), Jvm.Cond.code ({ cls := "com/example/fastpath/fastpath/settings/RedisServer", name := "<init>", desc := "(ZLjava/lang/String;ILjava/lang/String;Ljava/lang/String;I)V" } : Jvm.MethodName) prog_20_method_1_code (7 : Nat) (Option.none : Option Jvm.ClassFile.FieldType), Jvm.Cond.code ({ cls := "java/lang/Record", name := "<init>", desc := "()V" } : Jvm.MethodName) jdk_30_method_1_code (1 : Nat) (Option.none : Option Jvm.ClassFile.FieldType), Jvm.Cond.code ({ cls := "com/example/fastpath/fastpath/settings/RedisServer", name := "toString", desc := "()Ljava/lang/String;" } : Jvm.MethodName) prog_20_method_2_code (3 : Nat) (Option.some (Jvm.ClassFile.FieldType.object "java/lang/String")), Jvm.Cond.code ({ cls := "java/lang/StringBuilder", name := "<init>", desc := "()V" } : Jvm.MethodName) jdk_67_method_1_code (1 : Nat) (Option.none : Option Jvm.ClassFile.FieldType), Jvm.Cond.code ({ cls := "java/lang/AbstractStringBuilder", name := "<init>", desc := "(I)V" } : Jvm.MethodName) jdk_68_method_2_code (2 : Nat) (Option.none : Option Jvm.ClassFile.FieldType), Jvm.Cond.code ({ cls := "java/lang/StringBuilder", name := "append", desc := "(Ljava/lang/String;)Ljava/lang/StringBuilder;" } : Jvm.MethodName) jdk_67_method_7_code (2 : Nat) (Option.some (Jvm.ClassFile.FieldType.object "java/lang/StringBuilder")), Jvm.Cond.code ({ cls := "java/lang/AbstractStringBuilder", name := "append", desc := "(Ljava/lang/String;)Ljava/lang/AbstractStringBuilder;" } : Jvm.MethodName) jdk_68_method_22_code (3 : Nat) (Option.some (Jvm.ClassFile.FieldType.object "java/lang/AbstractStringBuilder")), Jvm.Cond.code ({ cls := "java/lang/String", name := "length", desc := "()I" } : Jvm.MethodName) jdk_42_method_54_code (1 : Nat) (Option.some Jvm.ClassFile.FieldType.int), Jvm.Cond.code ({ cls := "java/lang/String", name := "coder", desc := "()B" } : Jvm.MethodName) jdk_42_method_152_code (1 : Nat) (Option.some Jvm.ClassFile.FieldType.byte), Jvm.Cond.code ({ cls := "java/lang/AbstractStringBuilder", name := "ensureCapacityInternal", desc := "(I)V" } : Jvm.MethodName) jdk_68_method_9_code (3 : Nat) (Option.none : Option Jvm.ClassFile.FieldType), Jvm.Cond.code ({ cls := "java/lang/AbstractStringBuilder", name := "putStringAt", desc := "(ILjava/lang/String;)V" } : Jvm.MethodName) jdk_68_method_73_code (3 : Nat) (Option.none : Option Jvm.ClassFile.FieldType), Jvm.Cond.code ({ cls := "java/lang/AbstractStringBuilder", name := "inflateIfNeededFor", desc := "(Ljava/lang/String;)V" } : Jvm.MethodName) jdk_68_method_71_code (2 : Nat) (Option.none : Option Jvm.ClassFile.FieldType), Jvm.Cond.code ({ cls := "java/lang/String", name := "getBytes", desc := "([BIB)V" } : Jvm.MethodName) jdk_42_method_147_code (4 : Nat) (Option.none : Option Jvm.ClassFile.FieldType), Jvm.Cond.code ({ cls := "java/lang/StringBuilder", name := "append", desc := "(I)Ljava/lang/StringBuilder;" } : Jvm.MethodName) jdk_67_method_15_code (2 : Nat) (Option.some (Jvm.ClassFile.FieldType.object "java/lang/StringBuilder")), Jvm.Cond.code ({ cls := "java/lang/AbstractStringBuilder", name := "append", desc := "(I)Ljava/lang/AbstractStringBuilder;" } : Jvm.MethodName) jdk_68_method_32_code (4 : Nat) (Option.some (Jvm.ClassFile.FieldType.object "java/lang/AbstractStringBuilder")), Jvm.Cond.code ({ cls := "java/lang/Integer", name := "stringSize", desc := "(I)I" } : Jvm.MethodName) jdk_33_method_13_code (4 : Nat) (Option.some Jvm.ClassFile.FieldType.int), Jvm.Cond.code ({ cls := "java/lang/AbstractStringBuilder", name := "isLatin1", desc := "()Z" } : Jvm.MethodName) jdk_68_method_68_code (1 : Nat) (Option.some Jvm.ClassFile.FieldType.boolean), Jvm.Cond.code ({ cls := "java/lang/Integer", name := "getChars", desc := "(II[B)I" } : Jvm.MethodName) jdk_33_method_12_code (7 : Nat) (Option.some Jvm.ClassFile.FieldType.int), Jvm.Cond.code ({ cls := "java/lang/StringBuilder", name := "toString", desc := "()Ljava/lang/String;" } : Jvm.MethodName) jdk_67_method_42_code (1 : Nat) (Option.some (Jvm.ClassFile.FieldType.object "java/lang/String")), Jvm.Cond.code ({ cls := "java/lang/String", name := "<init>", desc := "(Ljava/lang/StringBuilder;)V" } : Jvm.MethodName) jdk_42_method_53_code (2 : Nat) (Option.none : Option Jvm.ClassFile.FieldType), Jvm.Cond.code ({ cls := "java/lang/String", name := "<init>", desc := "(Ljava/lang/AbstractStringBuilder;Ljava/lang/Void;)V" } : Jvm.MethodName) jdk_42_method_150_code (5 : Nat) (Option.none : Option Jvm.ClassFile.FieldType), Jvm.Cond.code ({ cls := "java/lang/AbstractStringBuilder", name := "getValue", desc := "()[B" } : Jvm.MethodName) jdk_68_method_64_code (1 : Nat) (Option.some (Jvm.ClassFile.FieldType.array Jvm.ClassFile.FieldType.byte)), Jvm.Cond.code ({ cls := "java/lang/StringBuilder", name := "length", desc := "()I" } : Jvm.MethodName) jdk_67_method_93_code (1 : Nat) (Option.some Jvm.ClassFile.FieldType.int), Jvm.Cond.code ({ cls := "java/lang/AbstractStringBuilder", name := "length", desc := "()I" } : Jvm.MethodName) jdk_68_method_6_code (1 : Nat) (Option.some Jvm.ClassFile.FieldType.int), Jvm.Cond.code ({ cls := "java/util/Arrays", name := "copyOfRange", desc := "([BII)[B" } : Jvm.MethodName) jdk_65_method_132_code (3 : Nat) (Option.some (Jvm.ClassFile.FieldType.array Jvm.ClassFile.FieldType.byte)), Jvm.Cond.code ({ cls := "java/util/Arrays", name := "copyOfRangeByte", desc := "([BII)[B" } : Jvm.MethodName) jdk_65_method_133_code (5 : Nat) (Option.some (Jvm.ClassFile.FieldType.array Jvm.ClassFile.FieldType.byte)), Jvm.Cond.code ({ cls := "java/util/Arrays", name := "checkLength", desc := "(II)V" } : Jvm.MethodName) jdk_65_method_131_code (2 : Nat) (Option.none : Option Jvm.ClassFile.FieldType), Jvm.Cond.code ({ cls := "java/lang/Math", name := "min", desc := "(II)I" } : Jvm.MethodName) jdk_29_method_69_code (2 : Nat) (Option.some Jvm.ClassFile.FieldType.int), Jvm.Cond.code ({ cls := "com/example/fastpath/fastpath/settings/RedisServerToStringPinLaw", name := "lit", desc := "(Ljava/lang/String;IC)I" } : Jvm.MethodName) method_2_code (3 : Nat) (Option.some Jvm.ClassFile.FieldType.int), Jvm.Cond.code ({ cls := "java/lang/String", name := "charAt", desc := "(I)C" } : Jvm.MethodName) jdk_42_method_56_code (2 : Nat) (Option.some Jvm.ClassFile.FieldType.char), Jvm.Cond.code ({ cls := "java/lang/String", name := "isLatin1", desc := "()Z" } : Jvm.MethodName) jdk_42_method_154_code (1 : Nat) (Option.some Jvm.ClassFile.FieldType.boolean), Jvm.Cond.code ({ cls := "java/lang/StringLatin1", name := "charAt", desc := "([BI)C" } : Jvm.MethodName) jdk_43_method_2_code (2 : Nat) (Option.some Jvm.ClassFile.FieldType.char), Jvm.Cond.code ({ cls := "java/lang/String", name := "checkIndex", desc := "(II)V" } : Jvm.MethodName) jdk_42_method_155_code (2 : Nat) (Option.none : Option Jvm.ClassFile.FieldType), Jvm.Cond.code ({ cls := "jdk/internal/util/Preconditions", name := "checkIndex", desc := "(IILjava/util/function/BiFunction;)I" } : Jvm.MethodName) jdk_41_method_11_code (3 : Nat) (Option.some Jvm.ClassFile.FieldType.int), Jvm.Cond.code ({ cls := "com/example/fastpath/fastpath/settings/RedisServerToStringPinLaw", name := "num", desc := "(Ljava/lang/String;II)I" } : Jvm.MethodName) method_4_code (5 : Nat) (Option.some Jvm.ClassFile.FieldType.int), Jvm.Cond.code ({ cls := "com/example/fastpath/fastpath/settings/RedisServerToStringPinLaw", name := "dig", desc := "(Ljava/lang/String;IIII[J)Z" } : Jvm.MethodName) method_3_code (9 : Nat) (Option.some Jvm.ClassFile.FieldType.boolean), Jvm.Cond.code ({ cls := "java/lang/StringUTF16", name := "compress", desc := "([CII)[B" } : Jvm.MethodName) jdk_52_method_16_code (6 : Nat) (Option.some (Jvm.ClassFile.FieldType.array Jvm.ClassFile.FieldType.byte)), Jvm.Cond.code ({ cls := "java/lang/StringUTF16", name := "compress", desc := "([CI[BII)I" } : Jvm.MethodName) jdk_52_method_21_code (7 : Nat) (Option.some Jvm.ClassFile.FieldType.int), Jvm.Cond.code ({ cls := "java/lang/StringUTF16", name := "coderFromArrayLen", desc := "([BI)B" } : Jvm.MethodName) jdk_52_method_15_code (2 : Nat) (Option.some Jvm.ClassFile.FieldType.byte), Jvm.Cond.code ({ cls := "java/lang/AbstractStringBuilder", name := "newCapacity", desc := "(I)I" } : Jvm.MethodName) jdk_68_method_10_code (6 : Nat) (Option.some Jvm.ClassFile.FieldType.int), Jvm.Cond.code ({ cls := "jdk/internal/util/ArraysSupport", name := "newLength", desc := "(III)I" } : Jvm.MethodName) jdk_48_method_27_code (4 : Nat) (Option.some Jvm.ClassFile.FieldType.int), Jvm.Cond.code ({ cls := "java/lang/Math", name := "max", desc := "(II)I" } : Jvm.MethodName) jdk_29_method_65_code (2 : Nat) (Option.some Jvm.ClassFile.FieldType.int), Jvm.Cond.code ({ cls := "java/util/Arrays", name := "copyOf", desc := "([BI)[B" } : Jvm.MethodName) jdk_65_method_121_code (3 : Nat) (Option.some (Jvm.ClassFile.FieldType.array Jvm.ClassFile.FieldType.byte)), Jvm.Cond.code ({ cls := "java/lang/String", name := "valueOf", desc := "(C)Ljava/lang/String;" } : Jvm.MethodName) jdk_42_method_139_code (1 : Nat) (Option.some (Jvm.ClassFile.FieldType.object "java/lang/String")), Jvm.Cond.code ({ cls := "java/lang/StringLatin1", name := "canEncode", desc := "(C)Z" } : Jvm.MethodName) jdk_43_method_3_code (1 : Nat) (Option.some Jvm.ClassFile.FieldType.boolean), Jvm.Cond.code ({ cls := "java/lang/StringLatin1", name := "toBytes", desc := "(C)[B" } : Jvm.MethodName) jdk_43_method_46_code (1 : Nat) (Option.some (Jvm.ClassFile.FieldType.array Jvm.ClassFile.FieldType.byte)), Jvm.Cond.code ({ cls := "java/lang/String", name := "<init>", desc := "([BB)V" } : Jvm.MethodName) jdk_42_method_151_code (3 : Nat) (Option.none : Option Jvm.ClassFile.FieldType)]
set_option maxRecDepth 65536 in
theorem codes_eq : words1.filter isCode = codes1 := rfl
theorem w_codes : ∀ c ∈ words1.filter isCode, c.before args0 about1 = true := by
  rw [codes_eq]
  intro c hc
  simp only [codes1, List.mem_cons, List.not_mem_nil, or_false] at hc
  rcases hc with rfl | rfl | rfl | rfl | rfl | rfl | rfl | rfl | rfl | rfl | rfl | rfl | rfl | rfl | rfl | rfl | rfl | rfl | rfl | rfl | rfl | rfl | rfl | rfl | rfl | rfl | rfl | rfl | rfl | rfl | rfl | rfl | rfl | rfl | rfl | rfl | rfl | rfl | rfl | rfl | rfl | rfl | rfl | rfl | rfl | rfl | rfl | rfl | rfl | rfl | rfl
  · exact w_c0
  · exact w_c1
  · exact w_c2
  · exact w_c3
  · exact w_c4
  · exact w_c5
  · exact w_c6
  · exact w_c7
  · exact w_c8
  · exact w_c9
  · exact w_c10
  · exact w_c11
  · exact w_c12
  · exact w_c13
  · exact w_c14
  · exact w_c15
  · exact w_c16
  · exact w_c17
  · exact w_c18
  · exact w_c19
  · exact w_c20
  · exact w_c21
  · exact w_c22
  · exact w_c23
  · exact w_c24
  · exact w_c25
  · exact w_c26
  · exact w_c27
  · exact w_c28
  · exact w_c29
  · exact w_c30
  · exact w_c31
  · exact w_c32
  · exact w_c33
  · exact w_c34
  · exact w_c35
  · exact w_c36
  · exact w_c37
  · exact w_c38
  · exact w_c39
  · exact w_c40
  · exact w_c41
  · exact w_c42
  · exact w_c43
  · exact w_c44
  · exact w_c45
  · exact w_c46
  · exact w_c47
  · exact w_c48
  · exact w_c49
  · exact w_c50
set_option maxRecDepth 65536 in
theorem w_t1 : (words1.take 24).all (fun c => isCode c || c.before args0 about1) = true := by decide +kernel
set_option maxRecDepth 65536 in
theorem w_t2 : ((words1.drop 24).take 24).all (fun c => isCode c || c.before args0 about1) = true := by decide +kernel
set_option maxRecDepth 65536 in
theorem w_t3 : (((words1.drop 24).drop 24).take 24).all (fun c => isCode c || c.before args0 about1) = true := by decide +kernel
set_option maxRecDepth 65536 in
theorem w_t4 : ((((words1.drop 24).drop 24).drop 24).take 24).all (fun c => isCode c || c.before args0 about1) = true := by decide +kernel
set_option maxRecDepth 65536 in
theorem w_t5 : (((((words1.drop 24).drop 24).drop 24).drop 24).take 24).all (fun c => isCode c || c.before args0 about1) = true := by decide +kernel
set_option maxRecDepth 65536 in
theorem w_t6 : ((((((words1.drop 24).drop 24).drop 24).drop 24).drop 24).take 24).all (fun c => isCode c || c.before args0 about1) = true := by decide +kernel
set_option maxRecDepth 65536 in
theorem w_t7 : (((((((words1.drop 24).drop 24).drop 24).drop 24).drop 24).drop 24).take 24).all (fun c => isCode c || c.before args0 about1) = true := by decide +kernel
set_option maxRecDepth 65536 in
theorem w_t8 : ((((((((words1.drop 24).drop 24).drop 24).drop 24).drop 24).drop 24).drop 24).take 24).all (fun c => isCode c || c.before args0 about1) = true := by decide +kernel
set_option maxRecDepth 65536 in
theorem w_t9 : (((((((((words1.drop 24).drop 24).drop 24).drop 24).drop 24).drop 24).drop 24).drop 24).take 24).all (fun c => isCode c || c.before args0 about1) = true := by decide +kernel
set_option maxRecDepth 65536 in
theorem w_t10 : ((((((((((words1.drop 24).drop 24).drop 24).drop 24).drop 24).drop 24).drop 24).drop 24).drop 24).take 24).all (fun c => isCode c || c.before args0 about1) = true := by decide +kernel
set_option maxRecDepth 65536 in
theorem w_t11 : (((((((((((words1.drop 24).drop 24).drop 24).drop 24).drop 24).drop 24).drop 24).drop 24).drop 24).drop 24).take 24).all (fun c => isCode c || c.before args0 about1) = true := by decide +kernel
set_option maxRecDepth 65536 in
theorem w_t12 : ((((((((((((words1.drop 24).drop 24).drop 24).drop 24).drop 24).drop 24).drop 24).drop 24).drop 24).drop 24).drop 24).take 24).all (fun c => isCode c || c.before args0 about1) = true := by decide +kernel
set_option maxRecDepth 65536 in
theorem w_t13 : ((((((((((((words1.drop 24).drop 24).drop 24).drop 24).drop 24).drop 24).drop 24).drop 24).drop 24).drop 24).drop 24).drop 24).all (fun c => isCode c || c.before args0 about1) = true := by decide +kernel
theorem w_tables : (allAtoms (Jvm.Cond.code x code maxLocals ret :: tables_1)).before args0 about1 = true := by
  rw [allAtoms_all]
  show words1.all (fun c => c.before args0 about1) = true
  refine all_split ?_ w_codes
  rw [← List.take_append_drop 24 words1, List.all_append, w_t1, ← List.take_append_drop 24 (words1.drop 24), List.all_append, w_t2, ← List.take_append_drop 24 ((words1.drop 24).drop 24), List.all_append, w_t3, ← List.take_append_drop 24 (((words1.drop 24).drop 24).drop 24), List.all_append, w_t4, ← List.take_append_drop 24 ((((words1.drop 24).drop 24).drop 24).drop 24), List.all_append, w_t5, ← List.take_append_drop 24 (((((words1.drop 24).drop 24).drop 24).drop 24).drop 24), List.all_append, w_t6, ← List.take_append_drop 24 ((((((words1.drop 24).drop 24).drop 24).drop 24).drop 24).drop 24), List.all_append, w_t7, ← List.take_append_drop 24 (((((((words1.drop 24).drop 24).drop 24).drop 24).drop 24).drop 24).drop 24), List.all_append, w_t8, ← List.take_append_drop 24 ((((((((words1.drop 24).drop 24).drop 24).drop 24).drop 24).drop 24).drop 24).drop 24), List.all_append, w_t9, ← List.take_append_drop 24 (((((((((words1.drop 24).drop 24).drop 24).drop 24).drop 24).drop 24).drop 24).drop 24).drop 24), List.all_append, w_t10, ← List.take_append_drop 24 ((((((((((words1.drop 24).drop 24).drop 24).drop 24).drop 24).drop 24).drop 24).drop 24).drop 24).drop 24), List.all_append, w_t11, ← List.take_append_drop 24 (((((((((((words1.drop 24).drop 24).drop 24).drop 24).drop 24).drop 24).drop 24).drop 24).drop 24).drop 24).drop 24), List.all_append, w_t12, w_t13]
  rfl
set_option maxRecDepth 65536 in
theorem w_rest : rest_1_c.before args0 about1 = true := by decide +kernel
set_option maxRecDepth 65536 in
theorem w_case : (Jvm.Cond.and given_1 narrow_1).before args0 about1 = true := by decide +kernel
set_option maxRecDepth 65536 in
theorem w_consts : constsHeld consts_1 about1 := Jvm.Lit.constsHeldB_iff.mp (by decide +kernel)
theorem w_applies : (headSpec (Jvm.Cond.code x code maxLocals ret :: tables_1) room_1).applies x e0.platform about1 = true :=
  (Spec.applies_iff w_frames).mpr ⟨w_running, w_runnable, w_alone, w_named, w_hears, w_ripe, w_room, w_tables⟩
theorem atStart : AtStart classFile x code maxLocals ret World_1 tables_1 room_1 Calls_1 rest_1 Pre_1 launch0 p0 e0 about1 theMethod args0 below0 :=
  ⟨lists_1, trivial, launch0.admits_env _ _ _, launch0.least_env, fairChoices_fair.cas, fairChoices_fair.clock, w_frames, w_args, w_heap, w_applies, ⟨w_consts, trivial⟩, w_rest, w_case⟩
end start1
theorem witness_1 : WitnessClaimed_1 := ⟨start1.p0, start1.e0, start1.about1, start1.theMethod, start1.args0, start1.below0, start1.atStart⟩
end Jvm.Pilot.@@N@@
