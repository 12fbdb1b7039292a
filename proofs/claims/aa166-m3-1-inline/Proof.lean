import JvmDerived
import JvmDerived.Pilot.@@N@@Statement
import JvmDerived.Pilot.@@N@@Code
set_option linter.unusedVariables false
set_option linter.unusedSimpArgs false
namespace Jvm.Pilot.@@N@@
open Jvm Jvm.ClassFile Sem Op Lib Jvm.Free Jvm.Stand Jvm.LawKit Jvm.RoadKit Bundle Jvm.Pilot.@@N@@.Jvm.D
/-- the run from S ends as G says -/
def own_Fin (p : Program) (e : Env) (below : List Frame) (G : Outcome → State → Prop) (S : State) : Prop :=
  ∃ t o, Steps p.tables e below S t ∧ t.status = .running ∧ Ended t below o ∧ G o t
theorem own_go {p : Program} {e : Env} {below : List Frame} {G : Outcome → State → Prop} {S S' : State} (h : Steps p.tables e below S S') (k : own_Fin p e below G S') : own_Fin p e below G S := by
  obtain ⟨t, o, h1, h2, h3, h4⟩ := k
  exact ⟨t, o, h.trans h1, h2, h3, h4⟩
theorem own_by {p : Program} {e : Env} {below : List Frame} {G : Outcome → State → Prop} {S S' : State} (h : ∀ t, Steps p.tables e below S' t → Steps p.tables e below S t) (k : own_Fin p e below G S') : own_Fin p e below G S := by
  obtain ⟨t, o, h1, h2, h3, h4⟩ := k
  exact ⟨t, o, h t h1, h2, h3, h4⟩
theorem own_done {p : Program} {e : Env} {below : List Frame} {G : Outcome → State → Prop} {S t : State} {o : Outcome} (h1 : Steps p.tables e below S t) (h2 : t.status = .running) (h3 : Ended t below o) (h4 : G o t) : own_Fin p e below G S := ⟨t, o, h1, h2, h3, h4⟩
def own_get (rs : List Int32) (j : Int32) : Int32 := rs.getD j.toNatClampNeg 0
theorem own_getD (rs : List Int32) (j : Int32) : (rs.map Value.int).getD j.toNatClampNeg (.int (0 : Int32)) = .int (own_get rs j) := by
  unfold own_get
  rw [List.getD_eq_getElem?_getD, List.getD_eq_getElem?_getD, List.getElem?_map]
  cases rs[j.toNatClampNeg]? <;> rfl
theorem own_retI {p : Program} {l : Launch} {e : Env} {R : Room} {s : State} {m : MethodId} {args : Array Value} {below : List Frame} {meth : Method} {c : Code} {T : State} {locs : List Loc} {cells slots : Nat} (X : Stand p l e R s m args below meth c T locs cells slots) (hx : p.tables.exec = Jvm.exec) {pc : Nat} {Ls : Array Slot} {z : Int32} {rest : List Value} (hret : meth.sig.returnType = some .int) (hd : decode c.code pc = .ok (.ireturn, 1)) {fs : List Frame}
    (hl : ∀ (f : JFrame) (acts : List Action), f.method = m → f.locked = none → f.entered = [] → (doReturn e (T.setTop f) acts (some (.int z))).1 = T.setFrames fs) : Steps p.tables e below (T.setTop (mkF m pc Ls (.int z :: rest))) (T.setFrames fs) :=
  retOut X hx hret rfl (Or.inl ⟨rfl, Or.inl rfl, z, rfl⟩) hd hl
theorem own_h {a0 : Array Value} {Z : State} (hw : ∀ d ∈ tables_1, d.before a0 Z = true) (i : Nat) {d : Jvm.Cond} (h : tables_1[i]? = some d) : d.before a0 Z = true := hw _ (List.mem_of_getElem? h)
theorem own_gk {p : Program} {e : Env} {below : List Frame} {G : Outcome → State → Prop} {S S' : State} (h : Steps p.tables e below S' S' → Steps p.tables e below S S') (k : own_Fin p e below G S') : own_Fin p e below G S := own_go (h (Steps.refl _)) k
abbrev own_Gq (Q : Option Value → Heap → List Loc → Prop) (rm : Room) (s : State) : Outcome → State → Prop := fun o U' => ∃ v L, o = .returned v ∧ Q v U'.heap L ∧ FrameEnd s o U' L rm.cells rm.slots
abbrev own_Met (l : Launch) (y : MethodName) (bytes : ByteArray) (maxL : Nat) (ret : Option FieldType) (ws : List Jvm.Cond) (rm : Room) (A : Array Value) (Z : State) (h0 : Heap) (Q : Option Value → Heap → List Loc → Prop) : Prop :=
  MetFree l y (head1 (Jvm.Cond.code y bytes maxL ret :: ws) rm) (fun a U => a = A ∧ Z.Warmed39 U.vm ∧ U.heap = h0) (fun _ _ _ _ _ => True) (fun _ U o U' => ∃ v L, o = .returned v ∧ Q v U'.heap L ∧ FrameEnd U o U' L rm.cells rm.slots)
theorem own_met {l : Launch} {y : MethodName} {bytes : ByteArray} {maxL : Nat} {ret : Option FieldType} {ws : List Jvm.Cond} {rm : Room} {A : Array Value} {Z : State} {h0 : Heap} {Q : Option Value → Heap → List Loc → Prop} (hp : plainFor y = true)
    (H : ∀ (p : Program) (e : Env) (s : State) (m : MethodId) (below : List Frame) (meth : Method) (c : Code) (s₁ : State), p.tables.exec = Jvm.exec → c.code = bytes → c.maxLocals = maxL → meth.sig.returnType = ret → meth.locks = false → Z.Warmed39 s.vm → s.vm.findClass y.cls = some m.cls → meth.name = y.name → Stand p l e rm s m A below meth c s₁ [] 0 0 → s₁.heap = h0 → s.heap = h0 → own_Fin p e below (own_Gq Q rm s) (s₁.setTop (entryFrame m A maxL))) : own_Met l y bytes maxL ret ws rm A Z h0 Q := by
  refine MetFree.of_bodySF hp hisR ?_
  intro p e s m args below meth c s₁ Bd hml0 hP hK
  obtain ⟨rfl, hZ, hh⟩ := hP
  exact H p e s m below meth c s₁ Bd.exec Bd.bytes hml0 Bd.returns Bd.notSynchronized hZ (findClass_of_methodNamed Bd.named) (name_of_methodNamed Bd.named Bd.method).1 (Stand.of_body Bd) (by rw [← hh, Bd.state]; rfl) hh
section OwnCall
variable {p : Program} {l : Launch} {e : Env} {R : Room} {s : State} {m : MethodId} {args : Array Value} {below : List Frame} {meth : Method} {c : Code} {T : State} {locs : List Loc} {cells slots : Nat} {Z : State} {a0 : Array Value} {h : Heap}
theorem own_callS (X : Stand p l e R s m args below meth c T locs cells slots) (hx : p.tables.exec = Jvm.exec) (hZ : Z.Warmed39 s.vm) {own : String} {index : Nat} {y : MethodName} {bytes : ByteArray} {maxL : Nat} {ret : Option FieldType} {rm : Room} {as' : Array Value} {Q : Option Value → Heap → List Loc → Prop}
    (hown : s.vm.findClass own = some m.cls) (w1 : (Cond.methodLink own index y).before a0 Z = true) (w2 : (Cond.static y).before a0 Z = true) (w3 : (Cond.initialized y.cls).before a0 Z = true) (w4 : (Cond.code y bytes maxL ret).before a0 Z = true) (hy : y.cls ≠ "java/lang/invoke/MethodHandle" ∧ y.cls ≠ "java/lang/invoke/VarHandle")
    (hM : own_Met l y bytes maxL ret [] rm as' Z h Q) {W : Nat} (hf : rm.frames + 1 ≤ R.frames) (hl : W + (maxL + 11) + rm.locals ≤ R.locals)
    {g : JFrame} (hg : g.method = m) (hsize : g.locals.size = c.maxLocals) {argsL rest : List Value} (hlen : ∀ sig, parseMethodDescriptor y.desc = some sig → argsL.length = sig.parameters.length)
    (hs : g.stack = argsL.reverse ++ rest) (hW : 2 * g.monitorRoom + (rest.map fun v => v.category).sum ≤ W) (hd : decode c.code g.pc = .ok (.invokestatic index, 3)) (ha : argsL.toArray = as') (eT : T.heap = h) (hc : cells + rm.cells ≤ R.cells) (hsl : slots + rm.slots ≤ R.slots) :
    ∃ (v : Option Value) (T' : State) (L : List Loc), Stand p l e R s m args below meth c T' (locs ++ L) (cells + rm.cells) (slots + rm.slots) ∧ Q v T'.heap L ∧ Steps p.tables e below (T.setTop g) (T'.setTop { g with pc := g.pc + 3, stack := v.toList ++ rest }) := by
  obtain ⟨v, vm, ⟨T', L, k, n⟩, -, X', ⟨Lc, hQ, hL, hk, hn⟩, st⟩ := Jvm.LawKit.callS X hx hown (mvT hZ w1) (mvT hZ w2) (mvT hZ w3) (mvT hZ w4) hy (backOf (W := W) hM hZ w4 w3 hf hl) hg hsize hlen hs hW hd (fun _ _ => ⟨ha, eT, hc, hsl⟩)
  dsimp only [Pt.U, Pt.locs, Pt.cells, Pt.slots] at X' hQ hL hk hn st
  subst hL hk hn
  exact ⟨v, T', Lc, X', hQ, st _ (Steps.refl _)⟩
theorem own_callI (X : Stand p l e R s m args below meth c T locs cells slots) (hx : p.tables.exec = Jvm.exec) (hZ : Z.Warmed39 s.vm) {own : String} {index : Nat} {y : MethodName} {bytes : ByteArray} {maxL : Nat} {rm : Room} {as' : Array Value} {Q : Option Value → Heap → List Loc → Prop} (hn1 : y.name = "<init>")
    (hown : s.vm.findClass own = some m.cls) (w1 : (Cond.methodLink own index y).before a0 Z = true) (w2 : (Cond.instanceMethod y).before a0 Z = true) (w3 : (Cond.initialized y.cls).before a0 Z = true) (w4 : (Cond.code y bytes maxL none).before a0 Z = true) (hy : y.cls ≠ "java/lang/invoke/MethodHandle" ∧ y.cls ≠ "java/lang/invoke/VarHandle")
    (hM : own_Met l y bytes maxL none [] rm as' Z h Q) {W : Nat} (hf : rm.frames + 1 ≤ R.frames) (hl : W + (maxL + 11) + rm.locals ≤ R.locals)
    {g : JFrame} (hg : g.method = m) (hsize : g.locals.size = c.maxLocals) {a : Addr} {argsL rest : List Value} (hlen : ∀ sig, parseMethodDescriptor y.desc = some sig → argsL.length = sig.parameters.length)
    (hs : g.stack = argsL.reverse ++ .ref a :: rest) (hW : 2 * g.monitorRoom + (rest.map fun v => v.category).sum ≤ W) (hd : decode c.code g.pc = .ok (.invokespecial index, 3)) (ha : (.ref a :: argsL).toArray = as') (eT : T.heap = h) (hc : cells + rm.cells ≤ R.cells) (hsl : slots + rm.slots ≤ R.slots) :
    ∃ (v : Option Value) (T' : State) (L : List Loc), Stand p l e R s m args below meth c T' (locs ++ L) (cells + rm.cells) (slots + rm.slots) ∧ Q v T'.heap L ∧ Steps p.tables e below (T.setTop g) (T'.setTop { g with pc := g.pc + 3, stack := v.toList ++ rest }) := by
  obtain ⟨v, vm, ⟨T', L, k, n⟩, -, X', ⟨Lc, hQ, hL, hk, hn⟩, st⟩ := X.specialBack hx hn1 hown (mvT hZ w1) (mvT hZ w2) (mvT hZ w4) hy (backOf (W := W) hM hZ w4 w3 hf hl) hg hsize (Steps.refl _) hlen hs hW hd (fun _ _ => ⟨ha, eT, hc, hsl⟩)
  dsimp only [Pt.U, Pt.locs, Pt.cells, Pt.slots] at X' hQ hL hk hn st
  subst hL hk hn
  exact ⟨v, T', Lc, X', hQ, st⟩
theorem own_callV (X : Stand p l e R s m args below meth c T locs cells slots) (hx : p.tables.exec = Jvm.exec) (hZ : Z.Warmed39 s.vm) {own C : String} {index : Nat} {y z : MethodName} {bytes : ByteArray} {maxL : Nat} {ret : Option FieldType} {rm : Room} {as' : Array Value} {Q : Option Value → Heap → List Loc → Prop} {a : Addr} (E : Exa Z h a C)
    (hown : s.vm.findClass own = some m.cls) (w1 : (Cond.methodLink own index y).before a0 Z = true) (w5 : (Cond.declares y).before a0 Z = true) (hnf : NotFace s y) (w6 : (Cond.selects C y z).before a0 Z = true) (w2 : (Cond.instanceMethod z).before a0 Z = true) (w3 : (Cond.initialized z.cls).before a0 Z = true) (w4 : (Cond.code z bytes maxL ret).before a0 Z = true) (hy : y.cls ≠ "java/lang/invoke/MethodHandle" ∧ y.cls ≠ "java/lang/invoke/VarHandle")
    (hM : own_Met l z bytes maxL ret [] rm as' Z h Q) {W : Nat} (hf : rm.frames + 1 ≤ R.frames) (hl : W + (maxL + 11) + rm.locals ≤ R.locals)
    {g : JFrame} (hg : g.method = m) (hsize : g.locals.size = c.maxLocals) {argsL rest : List Value} (hlen : ∀ sig, parseMethodDescriptor y.desc = some sig → argsL.length = sig.parameters.length)
    (hs : g.stack = argsL.reverse ++ .ref a :: rest) (hW : 2 * g.monitorRoom + (rest.map fun v => v.category).sum ≤ W) (hd : decode c.code g.pc = .ok (.invokevirtual index, 3)) (ha : (.ref a :: argsL).toArray = as') (eT : T.heap = h) (hc : cells + rm.cells ≤ R.cells) (hsl : slots + rm.slots ≤ R.slots) :
    ∃ (v : Option Value) (T' : State) (L : List Loc), Stand p l e R s m args below meth c T' (locs ++ L) (cells + rm.cells) (slots + rm.slots) ∧ Q v T'.heap L ∧ Steps p.tables e below (T.setTop g) (T'.setTop { g with pc := g.pc + 3, stack := v.toList ++ rest }) := by
  obtain ⟨cq, kq, qa, qb, qc⟩ := isOf hZ eT E
  obtain ⟨v, vm, ⟨T', L, k, n⟩, -, X', ⟨Lc, hQ, hL, hk, hn⟩, st⟩ := X.virtualBack hx hown (mvT hZ w1) (mvT hZ w5) hnf (mvT hZ w6) (mvT hZ w2) hy (backOf (W := W) hM hZ w4 w3 hf hl) qa qc hg hsize (Steps.refl _) hlen hs hW hd (fun _ _ => ⟨ha, eT, hc, hsl⟩)
  dsimp only [Pt.U, Pt.locs, Pt.cells, Pt.slots] at X' hQ hL hk hn st
  subst hL hk hn
  exact ⟨v, T', Lc, X', hQ, st⟩
end OwnCall
abbrev own_y1 : MethodName := ⟨"com/example/pricefence/pricefence/io/InputExceptionQuotePinLaw", "make", "(I)[C"⟩
abbrev own_y2 : MethodName := ⟨"java/lang/String", "<init>", "([C)V"⟩
abbrev own_y3 : MethodName := ⟨"java/lang/String", "<init>", "([CIILjava/lang/Void;)V"⟩
abbrev own_y4 : MethodName := ⟨"java/lang/Object", "<init>", "()V"⟩
abbrev own_y5 : MethodName := ⟨"com/example/pricefence/pricefence/io/InputException", "quote", "(Ljava/lang/String;)Ljava/lang/String;"⟩
abbrev own_y6 : MethodName := ⟨"java/lang/String", "length", "()I"⟩
abbrev own_y7 : MethodName := ⟨"java/lang/String", "coder", "()B"⟩
abbrev own_y8 : MethodName := ⟨"java/lang/StringBuilder", "<init>", "()V"⟩
abbrev own_y9 : MethodName := ⟨"java/lang/AbstractStringBuilder", "<init>", "(I)V"⟩
abbrev own_y10 : MethodName := ⟨"java/lang/StringBuilder", "append", "(Ljava/lang/String;)Ljava/lang/StringBuilder;"⟩
abbrev own_y11 : MethodName := ⟨"java/lang/AbstractStringBuilder", "append", "(Ljava/lang/String;)Ljava/lang/AbstractStringBuilder;"⟩
abbrev own_y12 : MethodName := ⟨"java/lang/AbstractStringBuilder", "ensureCapacityInternal", "(I)V"⟩
abbrev own_y13 : MethodName := ⟨"java/lang/AbstractStringBuilder", "putStringAt", "(ILjava/lang/String;)V"⟩
abbrev own_y14 : MethodName := ⟨"java/lang/AbstractStringBuilder", "inflateIfNeededFor", "(Ljava/lang/String;)V"⟩
abbrev own_y15 : MethodName := ⟨"java/lang/String", "getBytes", "([BIB)V"⟩
abbrev own_y16 : MethodName := ⟨"java/lang/StringBuilder", "toString", "()Ljava/lang/String;"⟩
abbrev own_y17 : MethodName := ⟨"java/lang/String", "<init>", "(Ljava/lang/StringBuilder;)V"⟩
abbrev own_y18 : MethodName := ⟨"java/lang/String", "<init>", "(Ljava/lang/AbstractStringBuilder;Ljava/lang/Void;)V"⟩
abbrev own_y19 : MethodName := ⟨"java/lang/AbstractStringBuilder", "getValue", "()[B"⟩
abbrev own_y20 : MethodName := ⟨"java/lang/StringBuilder", "length", "()I"⟩
abbrev own_y21 : MethodName := ⟨"java/lang/AbstractStringBuilder", "length", "()I"⟩
abbrev own_y22 : MethodName := ⟨"java/lang/AbstractStringBuilder", "isLatin1", "()Z"⟩
abbrev own_y23 : MethodName := ⟨"java/util/Arrays", "copyOfRange", "([BII)[B"⟩
abbrev own_y24 : MethodName := ⟨"java/util/Arrays", "copyOfRangeByte", "([BII)[B"⟩
abbrev own_y25 : MethodName := ⟨"java/util/Arrays", "checkLength", "(II)V"⟩
abbrev own_y26 : MethodName := ⟨"java/lang/Math", "min", "(II)I"⟩
abbrev own_y27 : MethodName := ⟨"java/lang/String", "charAt", "(I)C"⟩
abbrev own_y28 : MethodName := ⟨"java/lang/String", "isLatin1", "()Z"⟩
abbrev own_y29 : MethodName := ⟨"java/lang/StringLatin1", "charAt", "([BI)C"⟩
abbrev own_y30 : MethodName := ⟨"java/lang/String", "checkIndex", "(II)V"⟩
abbrev own_y31 : MethodName := ⟨"jdk/internal/util/Preconditions", "checkIndex", "(IILjava/util/function/BiFunction;)I"⟩
abbrev own_y32 : MethodName := ⟨"java/lang/StringUTF16", "compress", "([CII)[B"⟩
abbrev own_y33 : MethodName := ⟨"java/lang/StringUTF16", "compress", "([CI[BII)I"⟩
abbrev own_y34 : MethodName := ⟨"java/lang/StringUTF16", "coderFromArrayLen", "([BI)B"⟩
abbrev own_y35 : MethodName := ⟨"java/lang/AbstractStringBuilder", "newCapacity", "(I)I"⟩
abbrev own_y36 : MethodName := ⟨"jdk/internal/util/ArraysSupport", "newLength", "(III)I"⟩
abbrev own_y37 : MethodName := ⟨"java/lang/Math", "max", "(II)I"⟩
abbrev own_y38 : MethodName := ⟨"java/util/Arrays", "copyOf", "([BI)[B"⟩
abbrev own_y39 : MethodName := ⟨"java/lang/String", "substring", "(II)Ljava/lang/String;"⟩
abbrev own_y40 : MethodName := ⟨"java/lang/String", "checkBoundsBeginEnd", "(III)V"⟩
abbrev own_y41 : MethodName := ⟨"jdk/internal/util/Preconditions", "checkFromToIndex", "(IIILjava/util/function/BiFunction;)I"⟩
abbrev own_y42 : MethodName := ⟨"java/lang/StringLatin1", "newString", "([BII)Ljava/lang/String;"⟩
abbrev own_y43 : MethodName := ⟨"java/lang/String", "<init>", "([BB)V"⟩
abbrev own_y44 : MethodName := ⟨"java/lang/StringUTF16", "toBytes", "([CII)[B"⟩
abbrev own_y45 : MethodName := ⟨"java/lang/StringUTF16", "newBytesFor", "(I)[B"⟩
abbrev own_y46 : MethodName := ⟨"java/lang/StringUTF16", "newBytesLength", "(I)I"⟩
abbrev own_y47 : MethodName := ⟨"java/lang/StringUTF16", "putChar", "([BII)V"⟩
abbrev own_y48 : MethodName := ⟨"java/lang/StringUTF16", "getChar", "([BI)C"⟩
abbrev own_y49 : MethodName := ⟨"java/lang/AbstractStringBuilder", "inflate", "()V"⟩
abbrev own_y50 : MethodName := ⟨"java/lang/StringLatin1", "inflate", "([BI[BII)V"⟩
abbrev own_y51 : MethodName := ⟨"java/lang/StringUTF16", "inflate", "([BI[BII)V"⟩
abbrev own_y52 : MethodName := ⟨"java/lang/StringUTF16", "checkBoundsOffCount", "(II[B)V"⟩
abbrev own_y53 : MethodName := ⟨"java/lang/StringUTF16", "length", "([B)I"⟩
abbrev own_y54 : MethodName := ⟨"java/lang/String", "checkBoundsOffCount", "(III)I"⟩
abbrev own_y55 : MethodName := ⟨"jdk/internal/util/Preconditions", "checkFromIndexSize", "(IIILjava/util/function/BiFunction;)I"⟩
abbrev own_y56 : MethodName := ⟨"java/lang/StringUTF16", "charAt", "([BI)C"⟩
abbrev own_y57 : MethodName := ⟨"java/lang/StringUTF16", "checkIndex", "(I[B)V"⟩
abbrev own_y58 : MethodName := ⟨"java/lang/StringUTF16", "newString", "([BII)Ljava/lang/String;"⟩
abbrev own_y59 : MethodName := ⟨"java/lang/StringUTF16", "compress", "([BII)[B"⟩
abbrev own_y60 : MethodName := ⟨"java/lang/StringUTF16", "compress", "([BI[BII)I"⟩
theorem own_addN (a b : Nat) : Int32.ofNat a + Int32.ofNat b = Int32.ofNat (a + b) := (Int32.ofNat_add a b).symm
theorem own_tn {a : Nat} (h : a < 2 ^ 31) : (Int32.ofNat a).toNatClampNeg = a := by
  unfold Int32.toNatClampNeg; rw [Int32.toInt_ofNat_of_lt h]; rfl
theorem own_ltN {a b : Nat} (ha : a < 2 ^ 31) (hb : b < 2 ^ 31) : Int32.ofNat a < Int32.ofNat b ↔ a < b := by
  rw [Int32.lt_iff_toInt_lt, Int32.toInt_ofNat_of_lt ha, Int32.toInt_ofNat_of_lt hb]; omega
theorem own_eqN {a b : Nat} (ha : a < 2 ^ 31) (hb : b < 2 ^ 31) : Int32.ofNat a = Int32.ofNat b ↔ a = b := by
  constructor
  · intro h
    have := congrArg Int32.toInt h
    rw [Int32.toInt_ofNat_of_lt ha, Int32.toInt_ofNat_of_lt hb] at this
    omega
  · rintro rfl; rfl
theorem own_subN {a b : Nat} (h : b ≤ a) : Int32.ofNat a - Int32.ofNat b = Int32.ofNat (a - b) := by
  have : Int32.ofNat a = Int32.ofNat (a - b) + Int32.ofNat b := by rw [own_addN]; congr 1; omega
  rw [this]; exact Int32.add_sub_cancel _ _
theorem own_nn {a : Nat} (h : a < 2 ^ 31) : ¬ Int32.ofNat a < (0 : Int32) := by
  intro q; exact absurd ((own_ltN (b := 0) h (by decide)).mp q) (Nat.not_lt_zero _)
theorem own_inb {i n : Nat} (h : i < n) (hn : n < 2 ^ 31) : ¬ Int32.ofNat i < (0 : Int32) ∧ Int32.ofNat i < Int32.ofNat n := ⟨own_nn (by omega), (own_ltN (by omega) hn).mpr h⟩
theorem own_shl0 {a : Nat} (h : a < 512) : Int32.ofNat a <<< ((0 : Int32) &&& 31) = Int32.ofNat a := (show ∀ a : Fin 512, Int32.ofNat a.val <<< ((0 : Int32) &&& 31) = Int32.ofNat a.val by decide +kernel) ⟨a, h⟩
theorem own_shl1 {a : Nat} (h : a < 512) : Int32.ofNat a <<< ((1 : Int32) &&& 31) = Int32.ofNat (2 * a) := (show ∀ a : Fin 512, Int32.ofNat a.val <<< ((1 : Int32) &&& 31) = Int32.ofNat (2 * a.val) by decide +kernel) ⟨a, h⟩
theorem own_shr0 {a : Nat} (h : a < 512) : Int32.ofNat a >>> ((0 : Int32) &&& 31) = Int32.ofNat a := (show ∀ a : Fin 512, Int32.ofNat a.val >>> ((0 : Int32) &&& 31) = Int32.ofNat a.val by decide +kernel) ⟨a, h⟩
theorem own_shr1 {a : Nat} (h : a < 512) : Int32.ofNat a >>> ((1 : Int32) &&& 31) = Int32.ofNat (a / 2) := (show ∀ a : Fin 512, Int32.ofNat a.val >>> ((1 : Int32) &&& 31) = Int32.ofNat (a.val / 2) by decide +kernel) ⟨a, h⟩
theorem own_shrd {a : Nat} (h : a < 256) : Int32.ofNat (2 * a) >>> ((1 : Int32) &&& 31) = Int32.ofNat a := by
  rw [own_shr1 (by omega), Nat.mul_div_cancel_left _ (by decide)]
theorem own_orN {x y : Int32} (hx : ¬ x < (0 : Int32)) (hy : ¬ y < (0 : Int32)) : ¬ (x ||| y) < (0 : Int32) := by
  have key : ∀ z : Int32, z < (0 : Int32) ↔ z.toBitVec.msb = true := fun z => by
    rw [Int32.lt_iff_toInt_lt, show (0 : Int32).toInt = 0 from rfl]
    show z.toBitVec.toInt < 0 ↔ _
    rw [BitVec.toInt_neg_iff, BitVec.msb_eq_decide]; simp; omega
  rw [key] at hx hy ⊢
  rw [show (x ||| y).toBitVec = x.toBitVec ||| y.toBitVec from rfl, BitVec.msb_or]
  simp [hx, hy]
/-- an array's components by a function -/
def own_R (f : Nat → Int32) (n : Nat) : List Int32 := (List.range n).map f
def own_up (f : Nat → Int32) (i : Nat) (z : Int32) : Nat → Int32 := fun j => if j = i then z else f j
theorem own_up_self (f : Nat → Int32) (i : Nat) (z : Int32) : own_up f i z i = z := by unfold own_up; rw [if_pos rfl]
theorem own_up_ne (f : Nat → Int32) {i j : Nat} (z : Int32) (h : j ≠ i) : own_up f i z j = f j := by unfold own_up; rw [if_neg h]
theorem own_lenR (f : Nat → Int32) (n : Nat) : (own_R f n).length = n := by simp [own_R]
theorem own_congR {f g : Nat → Int32} {n : Nat} (h : ∀ i, i < n → f i = g i) : own_R f n = own_R g n := by
  unfold own_R; exact List.map_congr_left fun i hi => h i (List.mem_range.mp hi)
theorem own_getV {f : Nat → Int32} {n i : Nat} (h : i < n) (hn : n < 2 ^ 31) : (List.map Value.int (own_R f n)).getD (Int32.ofNat i).toNatClampNeg (.int (0 : Int32)) = .int (f i) := by
  rw [own_tn (by omega)]; unfold own_R; simp [List.getD_eq_getElem?_getD, h]
theorem own_gV {f : Nat → Int32} {n i : Nat} (h : i < n) : (List.map Value.int (own_R f n)).getD i (.int (0 : Int32)) = .int (f i) := by
  unfold own_R; simp [List.getD_eq_getElem?_getD, h]
theorem own_setR {f : Nat → Int32} {n i : Nat} {z : Int32} (h : i < 2 ^ 31) : (own_R f n).set (Int32.ofNat i).toNatClampNeg z = own_R (own_up f i z) n := by
  rw [own_tn h]
  apply List.ext_getElem
  · simp [own_R]
  · intro j h1 h2
    simp only [own_R, List.getElem_set, List.getElem_map, List.getElem_range, own_up]
    by_cases q : i = j
    · rw [if_pos q, if_pos q.symm]
    · rw [if_neg q, if_neg (fun r => q r.symm)]
theorem own_pad0 (n : Nat) : ∀ i, (List.map Value.int (own_R (fun _ => (0 : Int32)) n)).getD i (.int (0 : Int32)) = ([] : List Value).getD i (.int (0 : Int32)) := fun i => by
  by_cases h : i < n
  · rw [own_gV h]; rfl
  · unfold own_R; simp [List.getD_eq_getElem?_getD, h]
def own_cpf (g f : Nat → Int32) (dp sp nn : Nat) : Nat → Int32 := fun j => if dp ≤ j ∧ j < dp + nn then f (sp + (j - dp)) else g j
theorem own_cpR {f g : Nat → Int32} {n m sp dp nn : Nat} (h1 : sp + nn ≤ n) (h2 : dp + nn ≤ m) (hn : n < 2 ^ 31) (hm : m < 2 ^ 31) :
    (List.map Value.int (own_R g m)).take (Int32.ofNat dp).toNatClampNeg ++ ((List.range (Int32.ofNat nn).toNatClampNeg).map fun i => (List.map Value.int (own_R f n)).getD ((Int32.ofNat sp).toNatClampNeg + i) (.int (0 : Int32))) ++ (List.map Value.int (own_R g m)).drop ((Int32.ofNat dp).toNatClampNeg + (Int32.ofNat nn).toNatClampNeg) = List.map Value.int (own_R (own_cpf g f dp sp nn) m) := by
  rw [own_tn (by omega), own_tn (by omega), own_tn (by omega)]
  apply List.ext_getElem
  · simp [own_R]; omega
  · intro j q1 q2
    simp only [List.length_map, own_lenR] at q2
    rw [List.getElem_map]
    have e : (own_R (own_cpf g f dp sp nn) m)[j]'(by rw [own_lenR]; exact q2) = own_cpf g f dp sp nn j := by simp [own_R]
    rw [e]
    have eg : ∀ (i : Nat) (hi : i < m), (List.map Value.int (own_R g m))[i]'(by rw [List.length_map, own_lenR]; exact hi) = .int (g i) := fun i hi => by simp [own_R]
    have lt : ((List.map Value.int (own_R g m)).take dp).length = dp := by simp [own_R]; omega
    have lu : ((List.range nn).map fun i => (List.map Value.int (own_R f n)).getD (sp + i) (.int (0 : Int32))).length = nn := by simp
    unfold own_cpf
    by_cases c1 : j < dp
    · rw [if_neg (by omega), List.getElem_append_left (by rw [List.length_append, lt]; omega), List.getElem_append_left (by rw [lt]; exact c1), List.getElem_take, eg j q2]
    · by_cases c2 : j < dp + nn
      · rw [if_pos ⟨by omega, c2⟩, List.getElem_append_left (by rw [List.length_append, lt, lu]; omega), List.getElem_append_right (by rw [lt]; omega)]
        rw [List.getElem_map, List.getElem_range, own_gV (by rw [lt]; omega)]
        rw [lt]
      · rw [if_neg (by omega), List.getElem_append_right (by rw [List.length_append, lt, lu]; omega), List.getElem_drop, eg _ (by rw [List.length_append, lt, lu]; omega)]
        congr 2
        rw [List.length_append, lt, lu]; omega
theorem own_bsrem {p : Int32} {n : Nat} (h0 : 0 < n) (hn : n < 2 ^ 31) : ∃ i : Nat, i < n ∧ (p &&& (2147483647 : Int32)) % Int32.ofNat n = Int32.ofNat i := by
  have h1 : (p &&& (2147483647 : Int32)).toInt = p.toInt % (2 ^ 31 : Nat) := c_mask p 2147483647 31 (by decide) (by decide)
  have h2 := (c_irem (p &&& (2147483647 : Int32)) (Int32.ofNat n) n (by rw [Int32.toInt_ofNat_of_lt hn])).1 (by omega)
  have a1 : 0 ≤ (p &&& (2147483647 : Int32)).toInt % (n : Int) := Int.emod_nonneg _ (by omega)
  have a2 : (p &&& (2147483647 : Int32)).toInt % (n : Int) < n := Int.emod_lt_of_pos _ (by omega)
  generalize hk : (p &&& (2147483647 : Int32)).toInt % (n : Int) = k at h2 a1 a2
  refine ⟨k.toNat, by omega, ?_⟩
  apply Int32.toInt_inj.mp
  rw [Int32.toInt_ofNat_of_lt (by omega), h2]
  omega
theorem own_le3 {a b c : Nat} (ha : a < 2 ^ 31) (hb : b < 2 ^ 31) (hc : c < 2 ^ 31) (h : a + b ≤ c) : (Int32.ofNat a).toNatClampNeg + (Int32.ofNat b).toNatClampNeg ≤ (Int32.ofNat c).toNatClampNeg := by
  rw [own_tn ha, own_tn hb, own_tn hc]; exact h
theorem own_le2 {a b n : Nat} {f : Nat → Int32} (ha : a < 2 ^ 31) (hb : b < 2 ^ 31) (h : a + b ≤ n) : (Int32.ofNat a).toNatClampNeg + (Int32.ofNat b).toNatClampNeg ≤ (List.map Value.int (own_R f n)).length := by
  rw [own_tn ha, own_tn hb, List.length_map, own_lenR]; exact h
theorem own_inl {i n : Nat} {f : Nat → Int32} (h : i < n) (hn : n < 2 ^ 31) : (Int32.ofNat i).toNatClampNeg < (List.map Value.int (own_R f n)).length := by
  rw [own_tn (by omega), List.length_map, own_lenR]; exact h
theorem own_arvc {Z : State} {h : Heap} {a : Addr} {k : ClassId} {ty : FieldType} {z : Int32} {vs vs' : List Value} {d : Value} (V : Arv Z h a k ty z vs d) (q : vs = vs') : Arv Z h a k ty z vs' d := q ▸ V
theorem own_arvm {Z : State} {h : Heap} {a : Addr} {k : ClassId} {ty : FieldType} {z : Int32} {vs vs' : List Int32} {d : Value} (V : Arv Z h a k ty z (List.map Value.int vs) d) (q : vs = vs') : Arv Z h a k ty z (List.map Value.int vs') d := q ▸ V
section OwnUp
open Jvm.Free.SB Jvm.Free.SBG
variable {p : Program} {l : Launch} {e : Env} {R : Room} {s : State} {m : MethodId} {args : Array Value} {below : List Frame} {meth : Method} {c : Code} {T : State} {locs : List Loc} {cells slots : Nat}
theorem own_privSel {y : MethodName} {K : String} (hinst : (Cond.instanceMethod y).before args s = true) (hsel : (Cond.selects K y y).before args s = true) (hpriv : s.PrivateAt y) (hy : y.cls ≠ "java/lang/invoke/MethodHandle" ∧ y.cls ≠ "java/lang/invoke/VarHandle") : (Cond.selects y.cls y y).before args s = true := by
  obtain ⟨mk, methM, hnamed, hmethM, -, -⟩ := Cond.instanceMethod_spec hinst
  obtain ⟨c2, r2, m2, -, -, q3, -, kP, hkP, hkPi⟩ := Cond.selects_spec hsel
  cases hnamed.symm.trans q3
  exact selects_self_of_private (findClass_of_methodNamed hnamed) hkP hkPi hpriv hinst hy
/-- an 'invokespecial' of the superclass's method, by the words that stand here -/
theorem own_upBack (X : Stand p l e R s m args below meth c T locs cells slots) (hexec : p.tables.exec = Jvm.exec) {own K : String} {index : Nat} {x w w' : MethodName} {bytes : ByteArray} {maxL : Nat} {ret : Option FieldType}
    (hown : s.vm.findClass own = some m.cls) (hlink : (Cond.methodLink own index x).before args s = true) (hinst : (Cond.instanceMethod x).before args s = true) (hsup : (Cond.superclass own x.cls).before args s = true) (hcode : (Cond.code x bytes maxL ret).before args s = true)
    (hsel : (Cond.selects K w w').before args s = true) (hw : w'.cls = x.cls) (hni : x.name ≠ "<init>") (hxm : x.cls ≠ "java/lang/invoke/MethodHandle" ∧ x.cls ≠ "java/lang/invoke/VarHandle")
    {C : String} {cB : ClassId} {a : Addr} (hcB : s.vm.findClass C = some cB) (hrecv : IsOf cB T a)
    {W : Nat} {Pre : Pt → Array Value → Prop} {Post : Pt → Array Value → Option Value → Pt → Prop} (hK : Back l R p e below s args x 3 W Pre Post)
    {g : JFrame} (hg : g.method = m) (hsize : g.locals.size = c.maxLocals) {s₀ : State} (hcome : Steps p.tables e below s₀ (T.setTop g)) {argsL rest : List Value}
    (hlen : ∀ sig, parseMethodDescriptor x.desc = some sig → argsL.length = sig.parameters.length) (hstack : g.stack = argsL.reverse ++ .ref a :: rest) (hW : 2 * g.monitorRoom + (rest.map fun v => v.category).sum ≤ W)
    (hdg : decode c.code g.pc = .ok (.invokespecial index, 3)) (hpre : ∀ vm₁, s.WarmedH vm₁ → Pre ⟨T.setVm vm₁, locs, cells, slots⟩ (.ref a :: argsL).toArray) :
    ∃ (v : Option Value) (vm₁ : Vm) (B : Pt), s.WarmedH vm₁ ∧ Stand p l e R s m args below meth c B.U B.locs B.cells B.slots ∧ Post ⟨T.setVm vm₁, locs, cells, slots⟩ (.ref a :: argsL).toArray v B ∧
      Steps p.tables e below s₀ (B.U.setTop { g with pc := g.pc + 3, stack := v.toList ++ rest }) := by
  obtain ⟨r0, r, hn, hrm, hstatic, habs⟩ := Cond.instanceMethod_spec hinst
  obtain ⟨cn, dk, kp, hcn, hdk, hkp, hsuper, -, -, hnid⟩ := Cond.superclass_spec hown hsup
  have hcn' : s.vm.findClass x.cls = some r0.cls := findClass_of_methodNamed hn
  cases hcn.symm.trans hcn'
  obtain ⟨kr, hkr, -⟩ := className_of_methodNamed hn
  obtain ⟨cell, hcell, hcls, hst⟩ := hrecv
  obtain ⟨kB, hkB, -⟩ := Vm.findClass_spec hcB
  have hfound : s.methodFound? x.cls x.name x.desc = some r0 := State.methodFound?_of_named hn hxm
  have hsame : (Cond.sameMethod x.cls x.cls x.name x.desc).before args s = true := by
    obtain ⟨c2, r2, m2, -, -, q3, -, kP, hkP, hkPi⟩ := Cond.selects_spec hsel
    have e1 : s.vm.findClass x.cls = some m2.cls := hw ▸ findClass_of_methodNamed q3
    have e2 : m2.cls = r0.cls := Option.some.inj (e1.symm.trans hcn')
    rw [e2] at hkP
    have hn' : s.methodNamed? ⟨x.cls, x.name, x.desc⟩ = some r0 := hn
    simp only [Cond.before, Cond.holds, Cond.value, hcn', hfound, hn', hkP]
    simp [hkPi]
  obtain ⟨methL, cL, hmL, -, -, -, -, -, -, hsigL⟩ := Cond.code_spec hn hcode
  cases hrm.symm.trans hmL
  exact X.specialUpBack hexec hown hlink hsame hn hrm hstatic habs hni hdk hnid hcn' hsuper (SBLen.isSubclass_self _ _ _ hkr) hcell (fun q hq => by rw [hq] at hst; cases hst) (by rw [hcls]; exact hkB) hK hg hsize hcome (hlen _ hsigL) hstack hW hdg hpre
end OwnUp
/-- the start's cells stand as they stood -/
def own_Old (Z : State) (n0 : Nat) (h : Heap) : Prop := Z.heap.size ≤ n0 ∧ Ext Z.heap h
theorem own_Old.ext {Z : State} {n0 : Nat} {h h' : Heap} (X : own_Old Z n0 h) (E : Ext h h') : own_Old Z n0 h' := ⟨X.1, Nat.le_trans X.2.1 E.1, fun x c q => E.2 x c (X.2.2 x c q)⟩
theorem own_Old.keep {Z : State} {n0 : Nat} {h h' : Heap} {ws : List Addr} (X : own_Old Z n0 h) (K : Keep h h' ws) (q : ∀ x ∈ ws, n0 ≤ x) : own_Old Z n0 h' := ⟨X.1, Nat.le_trans X.2.1 K.1, fun x c r => K.2.1 x c (X.2.2 x c r) fun z => absurd (Array.getElem?_eq_some_iff.mp r).1 (Nat.not_lt.mpr (Nat.le_trans X.1 (q x z)))⟩
theorem own_Old.wr {Z : State} {n0 : Nat} {h h' : Heap} {a : Addr} {sl : Nat} {v : Value} (X : own_Old Z n0 h) (W : Wr h h' a sl v) (q : n0 ≤ a) : own_Old Z n0 h' := X.keep (Keep.of_wr W) (allS q all0)
theorem own_nev {x va vb : Addr} {k : Nat} (h : vb = va ∨ k ≤ vb) (h1 : x ≠ va) (h2 : x < k) : x ≠ vb := by
  rcases h with rfl | h
  · exact h1
  · exact Nat.ne_of_lt (Nat.lt_of_lt_of_le h2 h)
-- signs
def own_lb (c : Int32) : Int32 := nar .byte ((c >>> ((0 : Int32) &&& 31)).toInt8.toInt32)
def own_hb (c : Int32) : Int32 := nar .byte ((c >>> ((8 : Int32) &&& 31)).toInt8.toInt32)
def own_ch (c : Int32) : Prop := ∃ q r : Fin 256, c = Int32.ofNat (256 * q.val + r.val)
theorem own_e16 (x : Int32) : x.toUInt32.toUInt16.toUInt32.toInt32 = Int32.ofNat x.toUInt32.toUInt16.toNat := by
  apply Int32.toBitVec_inj.mp
  apply BitVec.eq_of_toNat_eq
  simp
  have e : x.toUInt32.toNat = x.toBitVec.toNat := rfl
  omega
theorem own_c16 {n : Nat} (h : n < 65536) : (Int32.ofNat n).toUInt32.toUInt16.toUInt32.toInt32 = Int32.ofNat n := by
  rw [own_e16]; congr 1
  have e : (Int32.ofNat n).toUInt32.toNat = n % 4294967296 := by
    show (Int32.ofNat n).toBitVec.toNat = _
    simp
  simp; omega
theorem own_t8 (n : Nat) : (Int32.ofNat n).toInt8 = Int8.ofNat n := by simp
theorem own_m8 (q r : Nat) : Int8.ofNat (256 * q + r) = Int8.ofNat r := by
  apply Int8.toBitVec_inj.mp
  apply BitVec.eq_of_toNat_eq
  simp
theorem own_orr {q r : Nat} (h : r < 256) : Int32.ofNat r ||| Int32.ofNat (256 * q) = Int32.ofNat (256 * q + r) := by
  have e : 256 * q + r = r ||| 256 * q := by
    rw [Nat.or_comm]; exact Nat.two_pow_add_eq_or_of_lt (i := 8) h q
  rw [e]
  apply Int32.toBitVec_inj.mp
  show BitVec.ofNat 32 r ||| BitVec.ofNat 32 (256 * q) = BitVec.ofNat 32 (r ||| 256 * q)
  apply BitVec.eq_of_toNat_eq
  rw [BitVec.toNat_or, BitVec.toNat_ofNat, BitVec.toNat_ofNat, BitVec.toNat_ofNat, Nat.or_mod_two_pow]
theorem own_sh0 (x : Int32) : x >>> ((0 : Int32) &&& 31) = x := by
  show x >>> (0 : Int32) = x
  simp
theorem own_sl0 (x : Int32) : x <<< ((0 : Int32) &&& 31) = x := by
  show x <<< (0 : Int32) = x
  simp
theorem own_sh8 {n : Nat} (h : n < 65536) : Int32.ofNat n >>> ((8 : Int32) &&& 31) = Int32.ofNat (n / 256) := by
  apply Int32.toBitVec_inj.mp
  have e : (Int32.ofNat n >>> ((8 : Int32) &&& 31)).toBitVec = (BitVec.ofNat 32 n).sshiftRight 8 := rfl
  rw [e]
  apply BitVec.eq_of_toInt_eq
  rw [BitVec.toInt_sshiftRight]
  have h1 : (BitVec.ofNat 32 n).toInt = n := by
    have := Int32.toInt_ofNat_of_lt (n := n) (by omega); exact this
  have h2 : (Int32.ofNat (n / 256)).toBitVec.toInt = (n / 256 : Nat) := Int32.toInt_ofNat_of_lt (by omega)
  rw [h1, h2, Int.shiftRight_eq_div_pow]
  omega
theorem own_k8 : ∀ q : Fin 256, Int32.ofNat q.val <<< ((8 : Int32) &&& 31) = Int32.ofNat (256 * q.val) := by decide +kernel
theorem own_b8 : ∀ q : Fin 256, ((Int8.ofNat q.val).toInt32.toInt8.toInt32) &&& (255 : Int32) = Int32.ofNat q.val := by decide +kernel
theorem own_chn {c : Int32} (h : own_ch c) : nar .char c = c := by
  obtain ⟨q, r, rfl⟩ := h
  exact own_c16 (by omega)
theorem own_gc {c : Int32} (h : own_ch c) : nar .char (((((own_lb c) &&& (255 : Int32)) <<< ((0 : Int32) &&& 31)) ||| (((own_hb c) &&& (255 : Int32)) <<< ((8 : Int32) &&& 31))).toUInt32.toUInt16.toUInt32.toInt32) = c := by
  obtain ⟨q, r, rfl⟩ := h
  have h1 : (own_lb (Int32.ofNat (256 * q.val + r.val))) &&& (255 : Int32) = Int32.ofNat r.val := by
    unfold own_lb; rw [own_sh0, own_t8, own_m8]; exact own_b8 r
  have h2 : (own_hb (Int32.ofNat (256 * q.val + r.val))) &&& (255 : Int32) = Int32.ofNat q.val := by
    unfold own_hb; rw [own_sh8 (by omega), show (256 * q.val + r.val) / 256 = q.val by omega, own_t8]; exact own_b8 q
  rw [h1, h2, own_sl0, own_k8 q, own_orr r.isLt, own_c16 (by omega)]
  exact own_c16 (by omega)
theorem own_c255 {c : Int32} (h : own_ch c) (h2 : ¬ (255 : Int32) < c) : ∃ k : Fin 256, c = Int32.ofNat k.val := by
  obtain ⟨q, r, rfl⟩ := h
  have h3 : ¬ 255 < 256 * q.val + r.val := fun z => h2 ((own_ltN (a := 255) (by omega) (by omega)).mpr z)
  exact ⟨r, by congr 1; omega⟩
theorem own_lo255 {c : Int32} (h : own_ch c) (h2 : ¬ (255 : Int32) < c) : (nar .byte (c.toInt8.toInt32)) &&& (255 : Int32) = c := by
  obtain ⟨k, rfl⟩ := own_c255 h h2
  exact (show ∀ k : Fin 256, (nar .byte ((Int32.ofNat k.val).toInt8.toInt32)) &&& (255 : Int32) = Int32.ofNat k.val by decide +kernel) k
theorem own_latc {c : Int32} (h : own_ch c) (h2 : ¬ (255 : Int32) < c) : nar .char (((nar .byte (c.toInt8.toInt32)) &&& (255 : Int32)).toUInt32.toUInt16.toUInt32.toInt32) = c := by
  rw [own_lo255 h h2]
  obtain ⟨k, rfl⟩ := own_c255 h h2
  exact (show ∀ k : Fin 256, nar .char ((Int32.ofNat k.val).toUInt32.toUInt16.toUInt32.toInt32) = Int32.ofNat k.val by decide +kernel) k
theorem own_chc (x : Int32) : own_ch (nar .char (x.toUInt32.toUInt16.toUInt32.toInt32)) := by
  have h := x.toUInt32.toUInt16.toNat_lt
  rw [own_e16]
  generalize x.toUInt32.toUInt16.toNat = k at h
  have hk : own_ch (Int32.ofNat k) := ⟨⟨k / 256, by omega⟩, ⟨k % 256, by omega⟩, by congr 1; simp only []; omega⟩
  rw [own_chn hk]; exact hk
def own_lo (cs : Nat → Int32) : Nat → Int32 := fun i => nar .byte ((cs i).toInt8.toInt32)
def own_u (cs : Nat → Int32) : Nat → Int32 := fun j => if j % 2 = 0 then own_lb (cs (j / 2)) else own_hb (cs (j / 2))
theorem own_u0 (cs : Nat → Int32) (i : Nat) : own_u cs (2 * i) = own_lb (cs i) := by
  unfold own_u; rw [if_pos (by omega), Nat.mul_div_cancel_left _ (by decide)]
theorem own_u1 (cs : Nat → Int32) (i : Nat) : own_u cs (2 * i + 1) = own_hb (cs i) := by
  unfold own_u; rw [if_neg (by omega), show (2 * i + 1) / 2 = i by omega]
def own_app (cs : Nat → Int32) (n : Nat) (ds : Nat → Int32) : Nat → Int32 := fun i => if i < n then cs i else ds (i - n)
theorem own_ext1 {f g : Nat → Int32} {i : Nat} {z : Int32} (h : ∀ j, j < i → f j = g j) (hz : z = g i) : ∀ j, j < i + 1 → own_up f i z j = g j := fun j hj => by
  unfold own_up; split
  · rename_i q; rw [q]; exact hz
  · exact h j (by omega)
theorem own_ext2 {f cs : Nat → Int32} {i : Nat} (h : ∀ j, j < 2 * i → f j = own_u cs j) : ∀ j, j < 2 * (i + 1) → own_up (own_up f (2 * i) (own_lb (cs i))) (2 * i + 1) (own_hb (cs i)) j = own_u cs j := fun j hj => by
  by_cases q : j = 2 * i + 1
  · rw [q, own_up_self, own_u1]
  · rw [own_up_ne _ _ q]
    by_cases r : j = 2 * i
    · rw [r, own_up_self, own_u0]
    · rw [own_up_ne _ _ r]; exact h j (by omega)
theorem own_first (cs : Nat → Int32) (n : Nat) : (∀ i, i < n → ¬ (255 : Int32) < cs i) ∨ ∃ i0, i0 < n ∧ (255 : Int32) < cs i0 ∧ ∀ j, j < i0 → ¬ (255 : Int32) < cs j := by
  induction n with
  | zero => exact Or.inl fun i h => absurd h (Nat.not_lt_zero _)
  | succ n ih =>
    rcases ih with h | ⟨i0, h1, h2, h3⟩
    · by_cases q : (255 : Int32) < cs n
      · exact Or.inr ⟨n, Nat.lt_succ_self _, q, h⟩
      · refine Or.inl fun i hi => ?_
        by_cases r : i = n
        · rw [r]; exact q
        · exact h i (by omega)
    · exact Or.inr ⟨i0, by omega, h2, h3⟩
theorem own_cfU {n : Nat} (h1 : 1 ≤ n) (h2 : n ≤ 64) : nar .byte ((((Int32.ofNat n - Int32.ofNat (2 * n)).toUInt32 >>> ((31 : Int32) &&& 31).toUInt32).toInt32).toInt8.toInt32) = (1 : Int32) := by
  have q := (show ∀ k : Fin 65, 1 ≤ k.val → nar .byte ((((Int32.ofNat k.val - Int32.ofNat (2 * k.val)).toUInt32 >>> ((31 : Int32) &&& 31).toUInt32).toInt32).toInt8.toInt32) = (1 : Int32) by decide +kernel) ⟨n, by omega⟩
  exact q h1
theorem own_subneg {m c : Nat} (h : m ≤ c) (hc : c < 512) : ¬ (0 : Int32) < Int32.ofNat m - Int32.ofNat c := by
  intro q
  have e : Int32.ofNat m - Int32.ofNat c = -Int32.ofNat (c - m) := by
    rw [← own_subN h, Int32.neg_sub]
  rw [e] at q
  have r := (show ∀ k : Fin 512, ¬ (0 : Int32) < -Int32.ofNat k.val by decide +kernel) ⟨c - m, by omega⟩
  exact r q
def own_cap (c m : Nat) : Nat := if m ≤ c then c else max m (2 * c + 2)
theorem own_cpf0 {g f : Nat → Int32} {n j : Nat} (h : j < n) : own_cpf g f 0 0 n j = f j := by
  unfold own_cpf; rw [if_pos ⟨Nat.zero_le _, by omega⟩]; simp
theorem own_appL {g cs ds : Nat → Int32} {c n : Nat} (h : ∀ j, j < c → g j = own_lo cs j) : ∀ j, j < c + n → own_cpf g (own_lo ds) c 0 n j = own_lo (own_app cs c ds) j := fun j hj => by
  unfold own_cpf
  by_cases q : c ≤ j
  · rw [if_pos ⟨q, hj⟩, Nat.zero_add]; unfold own_lo own_app; simp only [if_neg (show ¬ j < c by omega)]
  · rw [if_neg (by omega), h j (by omega)]; unfold own_lo own_app; simp only [if_pos (show j < c by omega)]
theorem own_appU {g cs ds : Nat → Int32} {c n : Nat} (h : ∀ j, j < 2 * c → g j = own_u cs j) : ∀ j, j < 2 * (c + n) → own_cpf g (own_u ds) (2 * c) 0 (2 * n) j = own_u (own_app cs c ds) j := fun j hj => by
  unfold own_cpf
  by_cases q : 2 * c ≤ j
  · rw [if_pos ⟨q, by omega⟩, Nat.zero_add]; unfold own_u own_app
    rw [show (j - 2 * c) % 2 = j % 2 by omega, show (j - 2 * c) / 2 = j / 2 - c by omega]
    simp only [if_neg (show ¬ j / 2 < c by omega)]
  · rw [if_neg (by omega), h j (by omega)]; unfold own_u own_app; simp only [if_pos (show j / 2 < c by omega)]
def own_Str (Z : State) (h : Heap) (r : Addr) (n : Nat) (cs : Nat → Int32) : Prop := Exa Z h r "java/lang/String" ∧ ∃ (v : Addr) (k : ClassId), Fld Z h r "java/lang/String" "value" "[B" (.ref v) ∧ ((Fld Z h r "java/lang/String" "coder" "B" (.int (0 : Int32)) ∧ (∀ i, i < n → ¬ (255 : Int32) < cs i) ∧ Arv Z h v k .byte (Int32.ofNat (n)) (List.map Value.int (own_R (own_lo cs) n)) (.int (0 : Int32))) ∨ (Fld Z h r "java/lang/String" "coder" "B" (.int (1 : Int32)) ∧ Arv Z h v k .byte (Int32.ofNat (2 * n)) (List.map Value.int (own_R (own_u cs) (2 * n))) (.int (0 : Int32))))
section OwnK
open Jvm.Free.SB Jvm.Free.SBG
variable {p : Program} {l : Launch} {e : Env} {R : Room} {s : State} {m : MethodId} {args : Array Value} {below : List Frame} {meth : Method} {c : Code} {T : State} {locs : List Loc} {cells slots : Nat} {Z : State} {a0 : Array Value} {h h' : Heap} {vm0 vm1 : Vm}
/-- the constant "" of String's own: either nothing has been interned since the case's start, or the entry is resolved and its String is an ordinary one -/
def own_K (Z : State) (h : Heap) (vm : Vm) : Prop := IB Z vm [] ∨ ∃ (a b : Addr) (k : ClassId), IB Z vm [""] ∧ Lit (Z.setVm vm) "java/lang/String" 7 a ∧ Exa Z h a "java/lang/String" ∧ Fld Z h a "java/lang/String" "coder" "B" (.int (0 : Int32)) ∧ Fld Z h a "java/lang/String" "value" "[B" (.ref b) ∧ Arv Z h b k .byte (0 : Int32) [] (.int (0 : Int32))
theorem own_K.warm (K : own_K Z h vm0) (W : (s.setVm vm0).WarmedH vm1) : own_K Z h vm1 := by
  rcases K with ⟨more, e, hm⟩ | ⟨a, b, k, ⟨more, e, hm⟩, L, r⟩
  · exact Or.inl ⟨more, (show vm1.interned = _ from W.interned_eq.trans e), hm⟩
  · exact Or.inr ⟨a, b, k, ⟨more, (show vm1.interned = _ from W.interned_eq.trans e), hm⟩, (Lit.stays (s := s) (show Lit (s.setVm vm0) _ _ _ from L) W.wide : Lit (s.setVm vm1) "java/lang/String" 7 a), r⟩
theorem own_K.keep (K : own_K Z h vm0) (Kp : Keep h h' []) : own_K Z h' vm0 := by
  rcases K with q | ⟨a, b, k, I, L, r1, r2, r3, r4⟩
  · exact Or.inl q
  · exact Or.inr ⟨a, b, k, I, L, r1.keep Kp, r2.keep Kp (by simp), r3.keep Kp (by simp), r4.keep Kp (by simp)⟩
theorem own_K.keep1 {a1 : Addr} (K : own_K Z h vm0) (E1 : Exa Z h a1 "java/lang/String") (Fn : Fld Z h a1 "java/lang/String" "value" "[B" .null) (wi : (Jvm.Cond.instantiable "java/lang/String" 4).before a0 Z = true) (Kp : Keep h h' [a1]) : own_K Z h' vm0 := by
  rcases K with q | ⟨a, b, k, I, L, r1, r2, r3, r4⟩
  · exact Or.inl q
  · have n1 : a ∉ [a1] := by
      intro q; rw [List.mem_singleton] at q
      exact Fld.ne r3 Fn (fun q => by cases q) q
    have n2 : b ∉ [a1] := by
      intro q; rw [List.mem_singleton] at q
      exact Exa.neArv E1 r4 wi q.symm
    exact Or.inr ⟨a, b, k, I, L, r1.keep Kp, r2.keep Kp n1, r3.keep Kp n1, r4.keep Kp n2⟩
theorem own_ldcK (X : Stand p l e R (s.setVm vm0) m args below meth c T [] cells slots) (hx : p.tables.exec = Jvm.exec) (hZ : Z.Warmed39 vm0) (hown : vm0.findClass "java/lang/String" = some m.cls) (w : (Jvm.Cond.stringLink "java/lang/String" 7 "").before a0 Z = true) (wS : ∀ a ∈ Bundle.stringAtoms, a.before a0 Z = true)
    (eT : T.heap = h) {k0 : Nat} (hS : s.Since vm0 k0) (hk : k0 ≤ h.size) (hkeep : ∀ (b : Addr) (cl : Cell), Z.heap[b]? = some cl → s.heap[b]? = some cl) (K : own_K Z h vm0) (hh : Jvm.Lit.constHeld Z "java/lang/String" 7) (hcw : Jvm.Lit.compactW.before a0 Z = true)
    {g : JFrame} (hg : g.method = m) (hd : decode c.code g.pc = .ok (.ldc 7, 2)) (hc : cells + 2 ≤ R.cells) (hl' : slots + 4 ≤ R.slots) :
    ∃ (a : Addr) (T' : State) (h' : Heap) (k1 : Nat) (b : Addr) (vm1 : Vm) (kc : ClassId), Stand p l e R (s.setVm vm1) m args below meth c T' [] (cells + 2) (slots + 4) ∧ T'.heap = h' ∧ Ext h h' ∧ s.Since vm1 k1 ∧ k1 ≤ h'.size ∧ Z.Warmed39 (s.setVm vm1).vm ∧ (s.setVm vm1).vm.findClass "java/lang/String" = some m.cls ∧
      Exa Z h' a "java/lang/String" ∧ Fld Z h' a "java/lang/String" "coder" "B" (.int (0 : Int32)) ∧ Fld Z h' a "java/lang/String" "value" "[B" (.ref b) ∧ Arv Z h' b kc .byte (0 : Int32) [] (.int (0 : Int32)) ∧ Lit (s.setVm vm1) "java/lang/String" 7 a ∧ IB Z vm1 [""] ∧
      ∀ target, Steps p.tables e below (T'.setTop { g with pc := g.pc + 2, stack := .ref a :: g.stack }) target → Steps p.tables e below (T.setTop g) target := by
  rcases K with I | ⟨a, b, k, I, L, r1, r2, r3, r4⟩
  · obtain ⟨a, T', h', k1, b, k, r1, r2, r3, r4, r5, r6, r7, r8, r9, r10, r11, r12, r13, r14, r15, r16⟩ := ldcSVL X hx hZ hown w wS eT hS hk (Fr.nil _) hkeep I (by simp) hh hcw (vs := []) (z := 0) ⟨by decide, by decide⟩ (by decide) (by decide) hg hd (n := 0) (by decide) (by decide) hc hl'
    exact ⟨a, T', h', k1, b, T'.vm, k, r1, r2, r3, r4, r5, r6, r7, r8, r9, r10, r11, r15, r14, r16⟩
  · exact ⟨a, T, h, k0, b, vm0, k, X.more (by omega) (by omega), eT, ⟨Nat.le_refl _, fun _ _ q => q⟩, hS, hk, hZ, hown, r1, r2, r3, r4, L, I, ldcAgain X hx hZ hown w (show Lit (s.setVm vm0) _ _ _ from L) hg hd⟩
theorem own_backK {y : MethodName} {bytes : ByteArray} {maxL : Nat} {ret : Option FieldType} {rm : Room} {len W : Nat} {as' : Array Value} {Q : Option Value → Heap → List Loc → Prop}
    (hM : MetFree l y (head1 [Cond.code y bytes maxL ret] rm) (fun a U => a = as' ∧ (Z.Warmed39 U.vm ∧ own_K Z h U.vm) ∧ U.heap = h) (fun _ _ _ _ _ => True) (fun _ U o U' => ∃ v L, o = .returned v ∧ (Q v U'.heap L ∧ own_K Z U'.heap U'.vm) ∧ ReturnedEndW U o U' L rm.cells rm.slots))
    (hZ : Z.Warmed39 s.vm) (wc : (Cond.code y bytes maxL ret).before a0 Z = true) (wz : (Cond.initialized y.cls).before a0 Z = true) (hf : rm.frames + 1 ≤ R.frames) (hl : W + (maxL + 11) + rm.locals ≤ R.locals) :
    BackS l R p e below s args y len W (fun A a => a = as' ∧ A.U.heap = h ∧ A.cells + rm.cells ≤ R.cells ∧ A.slots + rm.slots ≤ R.slots ∧ own_K Z h A.U.vm)
      (fun A _ v B => ∃ L, (Q v B.U.heap L ∧ own_K Z B.U.heap B.U.vm) ∧ B.locs = A.locs ++ L ∧ B.cells = A.cells + rm.cells ∧ B.slots = A.slots + rm.slots) :=
  BackS.of_freeW (bytes := bytes) (maxL := maxL) (ret := ret) (E := fun _ _ o t L k n => k = rm.cells ∧ n = rm.slots ∧ ∃ v, o = .returned v ∧ Q v t.heap L ∧ own_K Z t.heap t.vm) hM hf hl
    (fun m meth c A a Y hp => have hU : Z.Warmed39 A.U.vm := wtrans hZ Y.warmed
      ⟨by show (Cond.and _ .tt).before a A.U = true; rw [Cond.before_and, mv hU wc]; rfl, mv hU wc, mv hU wz, hp.2.2.1, hp.2.2.2.1⟩)
    (fun m meth c A a g mk Y hp => ⟨hp.1, ⟨wtrans hZ Y.warmed, hp.2.2.2.2⟩, hp.2.1⟩) (fun _ _ _ _ _ _ _ _ _ => trivial)
    (fun _ _ _ _ ⟨v, L, h1, h2, h3⟩ => ⟨L, _, _, h3, rfl, rfl, v, h1, h2⟩)
    (fun m meth c A a g mk v t L k n Y hp _ _ ⟨e1, e2, v', e3, e4⟩ => by cases e3; subst e1 e2; exact ⟨L, e4, rfl, rfl, rfl⟩)
theorem own_backKn {y : MethodName} {bytes : ByteArray} {maxL : Nat} {ret : Option FieldType} {rm : Room} {len W : Nat} {as' : Array Value} {Q : Option Value → Heap → List Loc → Prop}
    (hM : MetFree l y (head1 [Cond.code y bytes maxL ret] rm) (fun a U => a = as' ∧ (Z.Warmed39 U.vm ∧ own_K Z h U.vm) ∧ U.heap = h) (fun _ _ _ _ _ => True) (fun _ U o U' => ∃ v L, o = .returned v ∧ Q v U'.heap L ∧ ReturnedEndW U o U' L rm.cells rm.slots))
    (hZ : Z.Warmed39 s.vm) (wc : (Cond.code y bytes maxL ret).before a0 Z = true) (wz : (Cond.initialized y.cls).before a0 Z = true) (hf : rm.frames + 1 ≤ R.frames) (hl : W + (maxL + 11) + rm.locals ≤ R.locals) :
    BackS l R p e below s args y len W (fun A a => a = as' ∧ A.U.heap = h ∧ A.cells + rm.cells ≤ R.cells ∧ A.slots + rm.slots ≤ R.slots ∧ own_K Z h A.U.vm)
      (fun A _ v B => ∃ L, Q v B.U.heap L ∧ B.locs = A.locs ++ L ∧ B.cells = A.cells + rm.cells ∧ B.slots = A.slots + rm.slots) :=
  BackS.of_freeW (bytes := bytes) (maxL := maxL) (ret := ret) (E := fun _ _ o t L k n => k = rm.cells ∧ n = rm.slots ∧ ∃ v, o = .returned v ∧ Q v t.heap L) hM hf hl
    (fun m meth c A a Y hp => have hU : Z.Warmed39 A.U.vm := wtrans hZ Y.warmed
      ⟨by show (Cond.and _ .tt).before a A.U = true; rw [Cond.before_and, mv hU wc]; rfl, mv hU wc, mv hU wz, hp.2.2.1, hp.2.2.2.1⟩)
    (fun m meth c A a g mk Y hp => ⟨hp.1, ⟨wtrans hZ Y.warmed, hp.2.2.2.2⟩, hp.2.1⟩) (fun _ _ _ _ _ _ _ _ _ => trivial)
    (fun _ _ _ _ ⟨v, L, h1, h2, h3⟩ => ⟨L, _, _, h3, rfl, rfl, v, h1, h2⟩)
    (fun m meth c A a g mk v t L k n Y hp _ _ ⟨e1, e2, v', e3, e4⟩ => by cases e3; subst e1 e2; exact ⟨L, e4, rfl, rfl, rfl⟩)
theorem own_K.ib (K : own_K Z h vm0) : ∃ Ts, IB Z vm0 Ts ∧ ∀ t ∈ Ts, t = "" := by
  rcases K with I | ⟨a, b, k, I, -⟩
  · exact ⟨[], I, fun t ht => absurd ht (by simp)⟩
  · exact ⟨[""], I, fun t ht => by simpa using ht⟩
end OwnK
def own_ST (Z : State) : Prop := ∃ (ct : Int32) (sv : Value), (¬ ct = (0 : Int32)) ∧ (sv = Value.null ∨ ∃ sf : Addr, sv = Value.ref sf) ∧ (Sta Z Z.heap "java/lang/StringUTF16" "$assertionsDisabled" "Z" (.int (1 : Int32))) ∧ (Sta Z Z.heap "java/lang/StringUTF16" "HI_BYTE_SHIFT" "I" (.int (0 : Int32))) ∧ (Sta Z Z.heap "java/lang/StringUTF16" "LO_BYTE_SHIFT" "I" (.int (8 : Int32))) ∧ (Sta Z Z.heap "java/lang/String" "COMPACT_STRINGS" "Z" (.int ct)) ∧ (Sta Z Z.heap "jdk/internal/util/Preconditions" "SIOOBE_FORMATTER" "Ljava/util/function/BiFunction;" sv)
theorem pn_java_lang_StringUTF16 : plainName "java/lang/StringUTF16" = true := by first | (simp [plainName, overriddenIn]; done) | decide +kernel
theorem ef_I_1 (m : MethodId) (x0 : Int32) : entryFrame m #[(.int x0)] 1 = mkF m 0 #[.val (.int x0)] [] := by first | (simp [entryFrame, mkF, argsToLocals, Value.category]; done) | rfl
def Qnl (Z : State) (N : Nat) (h0 : Heap) (n0 : Nat) (v : Option Value) (h : Heap) (L : List Loc) : Prop := v = some (.int (Int32.ofNat (2 * N))) ∧ Fr n0 L ∧ h = h0
theorem d46_0 : decode jdk_52_method_3_code 0 = .ok (.iload_n 0, 1) := by decide +kernel
theorem d46_1 : decode jdk_52_method_3_code 1 = .ok (.ifCond .ge 11, 3) := by decide +kernel
theorem d46_12 : decode jdk_52_method_3_code 12 = .ok (.iload_n 0, 1) := by decide +kernel
theorem d46_13 : decode jdk_52_method_3_code 13 = .ok (.ldc 20, 2) := by decide +kernel
theorem d46_15 : decode jdk_52_method_3_code 15 = .ok (.if_icmp .lt 40, 3) := by decide +kernel
theorem d46_55 : decode jdk_52_method_3_code 55 = .ok (.iload_n 0, 1) := by decide +kernel
theorem d46_56 : decode jdk_52_method_3_code 56 = .ok (.iconst 1, 1) := by decide +kernel
theorem d46_57 : decode jdk_52_method_3_code 57 = .ok (.ishl, 1) := by decide +kernel
theorem d46_58 : decode jdk_52_method_3_code 58 = .ok (.ireturn, 1) := by decide +kernel
set_option maxRecDepth 65536 in
set_option maxHeartbeats 40000000 in
theorem rmnl (l : Launch) (Z : State) (a0 : Array Value) (hw : ∀ d ∈ tables_1, d.before a0 Z = true) (ws : List Jvm.Cond) (N : Nat) (h0 : Heap) (n0 : Nat) (Z0 : n0 ≤ h0.size) (hN : N ≤ 64) : own_Met l own_y46 jdk_52_method_3_code 1 (some .int) ws ⟨0, 0, 0, 0⟩ #[(.int (Int32.ofNat (N)))] Z h0 (Qnl Z N h0 n0) := by
  refine own_met (plainFor_of_name pn_java_lang_StringUTF16) (fun p e s m below meth c s₁ hx hby hml hrt hlk hZ hown hnm X0 e0 es0 => ?_)
  have N0 := Fr.nil n0
  rw [ef_I_1 m (Int32.ofNat (N))]
  refine own_gk (XS.iloadN X0.here hx rfl (hb hby d46_0) rfl) ?_
  refine own_gk (XS.ifYes X0.here hx rfl (pc0 := 1) (pc' := 12) rfl (hb hby d46_1) rfl ((if0 _ _).trans (flt (show ¬ ((Int32.ofNat (N)) < (0 : Int32)) from (fun q => absurd ((own_ltN (a := N) (b := 0) (by omega) (by omega)).mp q) (by omega)))).2.1) (by decide) (by decide)) ?_
  refine own_gk (XS.iloadN X0.here hx rfl (hb hby d46_12) rfl) ?_
  refine own_by (X0.ldcInt hx hown (mvT hZ (own_h hw 225 rfl)) (g := (mkF m 13 #[iv (Int32.ofNat (N))] [(.int (Int32.ofNat (N)))])) rfl (hb hby d46_13)) ?_
  refine own_gk (XS.icmpYes X0.here hx rfl (pc0 := 15) (pc' := 55) rfl (hb hby d46_15) rfl (tlt (show (Int32.ofNat (N)) < (1073741823 : Int32) from ((own_ltN (a := N) (b := 1073741823) (by omega) (by omega)).mpr (by omega)))).1 (by decide) (by decide)) ?_
  show own_Fin _ _ _ _ (s₁.setTop (mkF m 55 #[iv (Int32.ofNat (N))] []))
  refine own_gk (XS.iloadN X0.here hx rfl (hb hby d46_55) rfl) ?_
  refine own_gk (XS.iconst X0.here hx rfl (hb hby d46_56)) ?_
  refine own_gk (XS.ishl X0.here hx rfl (hb hby d46_57) rfl) ?_
  show own_Fin _ _ _ _ (s₁.setTop (mkF m 58 #[iv (Int32.ofNat (N))] [(.int ((Int32.ofNat (N)) <<< ((1 : Int32) &&& 31)))]))
  rw [show ((Int32.ofNat (N)) <<< ((1 : Int32) &&& 31)) = Int32.ofNat (2 * N) from (own_shl1 (a := N) (by omega))]
  obtain ⟨fs1, hr1, hrun1, hended1, hW1, hsame1⟩ := X0.leave (v := some (.int (Int32.ofNat (2 * N)))) (fun h => by rw [hrt] at h; cases h)
  refine own_done (own_retI X0 hx hrt (hb hby d46_58) hr1) hrun1 hended1 ⟨_, _, rfl, ?_, ⟨_, rfl⟩, hW1, hsame1.mono (by decide) (by decide)⟩
  show Qnl Z N h0 n0 _ s₁.heap _
  rw [e0]
  exact ⟨rfl, N0, rfl⟩
def Qnf (Z : State) (N : Nat) (h0 : Heap) (n0 : Nat) (v : Option Value) (h : Heap) (L : List Loc) : Prop := ∃ (b : Addr) (kb : ClassId), v = some (.ref b) ∧ Fr n0 L ∧ Keep h0 h [] ∧ n0 ≤ b ∧ h0.size ≤ b ∧ Arv Z h b kb .byte (Int32.ofNat (2 * N)) (List.map Value.int (own_R ((fun _ => (0 : Int32))) (2 * N))) (.int (0 : Int32))
theorem d45_0 : decode jdk_52_method_2_code 0 = .ok (.iload_n 0, 1) := by decide +kernel
theorem d45_1 : decode jdk_52_method_2_code 1 = .ok (.invokestatic 11, 3) := by decide +kernel
theorem pd__28_I_29_I : parseMethodDescriptor "(I)I" = some ⟨[.int], some .int⟩ := by decide +kernel
theorem d45_4 : decode jdk_52_method_2_code 4 = .ok (.newarray .byte, 2) := by decide +kernel
theorem d45_6 : decode jdk_52_method_2_code 6 = .ok (.areturn, 1) := by decide +kernel
set_option maxRecDepth 65536 in
set_option maxHeartbeats 40000000 in
theorem rmnf (l : Launch) (Z : State) (a0 : Array Value) (hw : ∀ d ∈ tables_1, d.before a0 Z = true) (ws : List Jvm.Cond) (N : Nat) (h0 : Heap) (n0 : Nat) (Z0 : n0 ≤ h0.size) (hN : N ≤ 64) : own_Met l own_y45 jdk_52_method_2_code 1 (some (.array .byte)) ws ⟨1, 1, 128, 12⟩ #[(.int (Int32.ofNat (N)))] Z h0 (Qnf Z N h0 n0) := by
  refine own_met (plainFor_of_name pn_java_lang_StringUTF16) (fun p e s m below meth c s₁ hx hby hml hrt hlk hZ hown hnm X0 e0 es0 => ?_)
  have N0 := Fr.nil n0
  rw [ef_I_1 m (Int32.ofNat (N))]
  have Kz := Keep.refl h0 []
  refine own_gk (XS.iloadN X0.here hx rfl (hb hby d45_0) rfl) ?_
  obtain ⟨_, T2, Lc2, X2, hQ2, st2⟩ := own_callS X0 hx hZ hown (own_h hw 222 rfl) (own_h hw 223 rfl) (own_h hw 170 rfl) (own_h hw 224 rfl) (by decide) (rmnl l Z a0 hw [] N h0 n0 Z0 hN) (W := 0) (by decide) (by decide) (g := (mkF m 1 #[iv (Int32.ofNat (N))] [(.int (Int32.ofNat (N)))])) rfl (by rw [hml]; rfl) (argsL := [(.int (Int32.ofNat (N)))]) (rest := []) (lenOf pd__28_I_29_I rfl) rfl (Nat.le_of_eq rfl) (hb hby d45_1) rfl e0 (by decide) (by decide)
  obtain ⟨rfl, Nq2, e2⟩ := hQ2
  refine own_go st2 ?_
  have N2 := Fr.app N0 Nq2
  obtain ⟨T3, h3, k3, X3, e3, E3, A3, st3⟩ := newP X2 hx hZ (own_h hw 19 rfl) e2 (g := (mkF m 4 #[iv (Int32.ofNat (N))] [(.int (Int32.ofNat (2 * N)))])) rfl (hb hby d45_4) (n := (Int32.ofNat (2 * N))) rfl (own_nn (a := 2 * N) (by omega)) (cap := 128) (Nat.le_trans (Nat.le_of_eq (own_tn (a := 2 * N) (by omega))) (by omega)) (by decide) (by decide) (by decide)
  obtain ⟨b3, g3⟩ : ∃ z, z = h0.size := ⟨_, rfl⟩
  rw [← g3] at A3 st3
  refine own_by st3 ?_
  have g_b3 : n0 ≤ b3 := Nat.le_trans Z0 (Nat.le_of_eq g3.symm)
  have sz_b3 : h0.size ≤ b3 := Nat.le_trans Kz.1 (Nat.le_of_eq g3.symm)
  have K3 := Kz.ext E3
  have Z3 : n0 ≤ h3.size := Nat.le_trans Z0 E3.1
  have V_b3 : Arv Z h3 b3 k3 .byte (Int32.ofNat (2 * N)) (List.map Value.int (own_R ((fun _ => (0 : Int32))) (2 * N))) (.int (0 : Int32)) := (Arv.new A3 (own_nn (a := 2 * N) (by omega))).pad (own_pad0 _)
  obtain ⟨fs4, hr4, hrun4, hended4, hW4, hsame4⟩ := X3.leave (v := some (.ref b3)) (fun h => by rw [hrt] at h; cases h)
  refine own_done (retOut X3 hx hrt rfl (Or.inr (Or.inr (Or.inr (Or.inr ⟨rfl, rfl, rfl⟩)))) (hb hby d45_6) hr4) hrun4 hended4 ⟨_, _, rfl, ?_, ⟨_, rfl⟩, hW4, hsame4.mono (by decide) (by decide)⟩
  show Qnf Z N h0 n0 _ T3.heap _
  rw [e3]
  exact ⟨b3, k3, rfl, N2, K3, g_b3, sz_b3, V_b3⟩
theorem ef_RII_3 (m : MethodId) (x0 : Addr) (x1 : Int32) (x2 : Int32) : entryFrame m #[(.ref x0), (.int x1), (.int x2)] 3 = mkF m 0 #[.val (.ref x0), .val (.int x1), .val (.int x2)] [] := by first | (simp [entryFrame, mkF, argsToLocals, Value.category]; done) | rfl
def Qpc (Z : State) (a1 : Addr) (k : ClassId) (LL : Nat) (f : Nat → Int32) (i : Nat) (x : Int32) (h0 : Heap) (n0 : Nat) (v : Option Value) (h : Heap) (L : List Loc) : Prop := v = none ∧ Fr n0 L ∧ Keep h0 h [a1] ∧ Arv Z h a1 k .byte (Int32.ofNat (LL)) (List.map Value.int (own_R (own_up (own_up f (2 * i) (own_lb x)) (2 * i + 1) (own_hb x)) LL)) (.int (0 : Int32))
theorem d47_0 : decode jdk_52_method_4_code 0 = .ok (.getstatic 44, 3) := by decide +kernel
theorem d47_3 : decode jdk_52_method_4_code 3 = .ok (.ifCond .ne 25, 3) := by decide +kernel
theorem d47_28 : decode jdk_52_method_4_code 28 = .ok (.iload_n 1, 1) := by decide +kernel
theorem d47_29 : decode jdk_52_method_4_code 29 = .ok (.iconst 1, 1) := by decide +kernel
theorem d47_30 : decode jdk_52_method_4_code 30 = .ok (.ishl, 1) := by decide +kernel
theorem d47_31 : decode jdk_52_method_4_code 31 = .ok (.istore_n 1, 1) := by decide +kernel
theorem d47_32 : decode jdk_52_method_4_code 32 = .ok (.aload_n 0, 1) := by decide +kernel
theorem d47_33 : decode jdk_52_method_4_code 33 = .ok (.iload_n 1, 1) := by decide +kernel
theorem d47_34 : decode jdk_52_method_4_code 34 = .ok (.iinc 1 1, 3) := by decide +kernel
theorem d47_37 : decode jdk_52_method_4_code 37 = .ok (.iload_n 2, 1) := by decide +kernel
theorem d47_38 : decode jdk_52_method_4_code 38 = .ok (.getstatic 59, 3) := by decide +kernel
theorem d47_41 : decode jdk_52_method_4_code 41 = .ok (.ishr, 1) := by decide +kernel
theorem d47_42 : decode jdk_52_method_4_code 42 = .ok (.i2b, 1) := by decide +kernel
theorem d47_43 : decode jdk_52_method_4_code 43 = .ok (.bastore, 1) := by decide +kernel
theorem d47_44 : decode jdk_52_method_4_code 44 = .ok (.aload_n 0, 1) := by decide +kernel
theorem d47_45 : decode jdk_52_method_4_code 45 = .ok (.iload_n 1, 1) := by decide +kernel
theorem d47_46 : decode jdk_52_method_4_code 46 = .ok (.iload_n 2, 1) := by decide +kernel
theorem d47_47 : decode jdk_52_method_4_code 47 = .ok (.getstatic 63, 3) := by decide +kernel
theorem d47_50 : decode jdk_52_method_4_code 50 = .ok (.ishr, 1) := by decide +kernel
theorem d47_51 : decode jdk_52_method_4_code 51 = .ok (.i2b, 1) := by decide +kernel
theorem d47_52 : decode jdk_52_method_4_code 52 = .ok (.bastore, 1) := by decide +kernel
theorem d47_53 : decode jdk_52_method_4_code 53 = .ok (.return_, 1) := by decide +kernel
set_option maxRecDepth 65536 in
set_option maxHeartbeats 40000000 in
theorem rmpc (l : Launch) (Z : State) (a0 : Array Value) (hw : ∀ d ∈ tables_1, d.before a0 Z = true) (ws : List Jvm.Cond) (a1 : Addr) (k : ClassId) (LL : Nat) (f : Nat → Int32) (i : Nat) (x : Int32) (h0 : Heap) (n0 : Nat) (Z0 : n0 ≤ h0.size) (V_a1 : Arv Z h0 a1 k .byte (Int32.ofNat (LL)) (List.map Value.int (own_R f LL)) (.int (0 : Int32))) (g_a1 : n0 ≤ a1) (O0 : own_Old Z n0 h0) (hST : own_ST Z) (hL : LL ≤ 256) (hi : 2 * i + 1 < LL) : own_Met l own_y47 jdk_52_method_4_code 3 none ws ⟨0, 0, 0, 0⟩ #[(.ref a1), (.int (Int32.ofNat (i))), (.int x)] Z h0 (Qpc Z a1 k LL f i x h0 n0) := by
  refine own_met (plainFor_of_name pn_java_lang_StringUTF16) (fun p e s m below meth c s₁ hx hby hml hrt hlk hZ hown hnm X0 e0 es0 => ?_)
  have N0 := Fr.nil n0
  rw [ef_RII_3 m a1 (Int32.ofNat (i)) x]
  have Kz := Keep.refl h0 [a1]
  obtain ⟨ct, sv, hct, hsv, S__assertionsDisabled, S_HI_BYTE_SHIFT, S_LO_BYTE_SHIFT, S_COMPACT_STRINGS, S_SIOOBE_FORMATTER⟩ := id hST
  obtain ⟨T5, X5, e5, st5⟩ := getS2 X0 hx hZ hown (host := "") (Or.inl (own_h hw 229 rfl)) Via.refl e0 (S__assertionsDisabled.ext O0.2) (g := (mkF m 0 #[rv a1, iv (Int32.ofNat (i)), iv x] [])) rfl (hb hby d47_0)
  refine own_by st5 ?_
  refine own_gk (XS.ifYes X5.here hx rfl (pc0 := 3) (pc' := 28) rfl (hb hby d47_3) rfl ((if0 _ _).trans (feq (by decide : ¬ ((1 : Int32) = (0 : Int32)))).2) (by decide) (by decide)) ?_
  refine own_gk (XS.iloadN X5.here hx rfl (hb hby d47_28) rfl) ?_
  refine own_gk (XS.iconst X5.here hx rfl (hb hby d47_29)) ?_
  refine own_gk (XS.ishl X5.here hx rfl (hb hby d47_30) rfl) ?_
  show own_Fin _ _ _ _ (T5.setTop (mkF m 31 #[rv a1, iv (Int32.ofNat (i)), iv x] [(.int ((Int32.ofNat (i)) <<< ((1 : Int32) &&& 31)))]))
  rw [show ((Int32.ofNat (i)) <<< ((1 : Int32) &&& 31)) = Int32.ofNat (2 * i) from (own_shl1 (a := i) (by omega))]
  refine own_gk (XS.istoreN X5.here hx rfl (hb hby d47_31) rfl rfl) ?_
  refine own_gk (XS.aloadN X5.here hx rfl (hb hby d47_32) rfl rfl) ?_
  refine own_gk (XS.iloadN X5.here hx rfl (hb hby d47_33) rfl) ?_
  refine own_gk (XS.iinc X5.here hx rfl (hb hby d47_34) rfl rfl) ?_
  show own_Fin _ _ _ _ (T5.setTop (mkF m 37 #[rv a1, iv ((Int32.ofNat (2 * i)) + (1 : Int32)), iv x] [(.int (Int32.ofNat (2 * i))), (.ref a1)]))
  rw [show ((Int32.ofNat (2 * i)) + (1 : Int32)) = Int32.ofNat (2 * i + 1) from (own_addN (2 * i) 1)]
  refine own_gk (XS.iloadN X5.here hx rfl (hb hby d47_37) rfl) ?_
  obtain ⟨T6, X6, e6, st6⟩ := getS2 X5 hx hZ hown (host := "") (Or.inl (own_h hw 230 rfl)) Via.refl e5 (S_HI_BYTE_SHIFT.ext O0.2) (g := (mkF m 38 #[rv a1, iv (Int32.ofNat (2 * i + 1)), iv x] [(.int x), (.int (Int32.ofNat (2 * i))), (.ref a1)])) rfl (hb hby d47_38)
  refine own_by st6 ?_
  refine own_gk (XS.ishr X6.here hx rfl (hb hby d47_41) rfl) ?_
  refine own_gk (XS.i2b X6.here hx rfl (hb hby d47_42) rfl) ?_
  show own_Fin _ _ _ _ (T6.setTop (mkF m 43 #[rv a1, iv (Int32.ofNat (2 * i + 1)), iv x] [(.int ((x >>> ((0 : Int32) &&& 31)).toInt8.toInt32)), (.int (Int32.ofNat (2 * i))), (.ref a1)]))
  obtain ⟨cl7, Ar7, qa7, Sa7, Na7, Ha7, Ga7⟩ := id V_a1
  have hin7 : ¬ ((Int32.ofNat (2 * i)) < 0 ∨ cl7.slots.size ≤ ((Int32.ofNat (2 * i))).toNatClampNeg) := inb_of Sa7 (own_inb (i := 2 * i) (n := LL) (by omega) (by omega))
  obtain ⟨T8, h8, X8, e8, W8, st8⟩ := stB X6 hx hZ e6 Ar7 (j := (Int32.ofNat (2 * i))) hin7 (g := (mkF m 43 #[rv a1, iv (Int32.ofNat (2 * i + 1)), iv x] [(.int ((x >>> ((0 : Int32) &&& 31)).toInt8.toInt32)), (.int (Int32.ofNat (2 * i))), (.ref a1)])) rfl rfl (hb hby d47_43)
  refine own_by st8 ?_
  have hnr8 : nar .byte ((x >>> ((0 : Int32) &&& 31)).toInt8.toInt32) = (own_lb x) := rfl
  rw [hnr8] at W8
  have V_a1_8 : Arv Z h8 a1 k .byte (Int32.ofNat (LL)) (List.map Value.int ((own_R f LL).set ((Int32.ofNat (2 * i))).toNatClampNeg (own_lb x))) (.int (0 : Int32)) := by
    rw [List.map_set]; exact Arv.set Ar7 qa7 Sa7 Na7 Ha7 Ga7 (hnr8 ▸ fits_nar_byte ((x >>> ((0 : Int32) &&& 31)).toInt8.toInt32)) W8 _ rfl (own_inl (i := 2 * i) (n := LL) (by omega) (by omega))
  have Od8 := O0.wr W8 g_a1
  have N8 := Fr.snoc X8 N0 g_a1
  have Z8 : n0 ≤ h8.size := Nat.le_trans Z0 (Keep.of_wr W8).1
  have K8 := Kz.wr W8 (Or.inl (List.mem_of_getElem? (i := 0) rfl))
  have V_a1_u9 : Arv Z h8 a1 k .byte (Int32.ofNat (LL)) (List.map Value.int (own_R (own_up f (2 * i) (own_lb x)) LL)) (.int (0 : Int32)) := own_arvm V_a1_8 (own_setR (f := f) (n := LL) (i := 2 * i) (z := (own_lb x)) (by omega))
  refine own_gk (XS.aloadN X8.here hx rfl (hb hby d47_44) rfl rfl) ?_
  refine own_gk (XS.iloadN X8.here hx rfl (hb hby d47_45) rfl) ?_
  refine own_gk (XS.iloadN X8.here hx rfl (hb hby d47_46) rfl) ?_
  obtain ⟨T10, X10, e10, st10⟩ := getS2 X8 hx hZ hown (host := "") (Or.inl (own_h hw 231 rfl)) Via.refl e8 (S_LO_BYTE_SHIFT.ext Od8.2) (g := (mkF m 47 #[rv a1, iv (Int32.ofNat (2 * i + 1)), iv x] [(.int x), (.int (Int32.ofNat (2 * i + 1))), (.ref a1)])) rfl (hb hby d47_47)
  refine own_by st10 ?_
  show own_Fin _ _ _ _ (T10.setTop (mkF m 50 #[rv a1, iv (Int32.ofNat (2 * i + 1)), iv x] [(.int (8 : Int32)), (.int x), (.int (Int32.ofNat (2 * i + 1))), (.ref a1)]))
  refine own_gk (XS.ishr X10.here hx rfl (hb hby d47_50) rfl) ?_
  refine own_gk (XS.i2b X10.here hx rfl (hb hby d47_51) rfl) ?_
  obtain ⟨cl11, Ar11, qa11, Sa11, Na11, Ha11, Ga11⟩ := id V_a1_u9
  have hin11 : ¬ ((Int32.ofNat (2 * i + 1)) < 0 ∨ cl11.slots.size ≤ ((Int32.ofNat (2 * i + 1))).toNatClampNeg) := inb_of Sa11 (own_inb (i := 2 * i + 1) (n := LL) (by omega) (by omega))
  obtain ⟨T12, h12, X12, e12, W12, st12⟩ := stB X10 hx hZ e10 Ar11 (j := (Int32.ofNat (2 * i + 1))) hin11 (g := (mkF m 52 #[rv a1, iv (Int32.ofNat (2 * i + 1)), iv x] [(.int ((x >>> ((8 : Int32) &&& 31)).toInt8.toInt32)), (.int (Int32.ofNat (2 * i + 1))), (.ref a1)])) rfl rfl (hb hby d47_52)
  refine own_by st12 ?_
  have hnr12 : nar .byte ((x >>> ((8 : Int32) &&& 31)).toInt8.toInt32) = (own_hb x) := rfl
  rw [hnr12] at W12
  have V_a1_12 : Arv Z h12 a1 k .byte (Int32.ofNat (LL)) (List.map Value.int ((own_R (own_up f (2 * i) (own_lb x)) LL).set ((Int32.ofNat (2 * i + 1))).toNatClampNeg (own_hb x))) (.int (0 : Int32)) := by
    rw [List.map_set]; exact Arv.set Ar11 qa11 Sa11 Na11 Ha11 Ga11 (hnr12 ▸ fits_nar_byte ((x >>> ((8 : Int32) &&& 31)).toInt8.toInt32)) W12 _ rfl (own_inl (i := 2 * i + 1) (n := LL) (by omega) (by omega))
  have Od12 := Od8.wr W12 g_a1
  have N12 := Fr.snoc X12 N8 g_a1
  have Z12 : n0 ≤ h12.size := Nat.le_trans Z8 (Keep.of_wr W12).1
  have K12 := K8.wr W12 (Or.inl (List.mem_of_getElem? (i := 0) rfl))
  have V_a1_u13 : Arv Z h12 a1 k .byte (Int32.ofNat (LL)) (List.map Value.int (own_R (own_up (own_up f (2 * i) (own_lb x)) (2 * i + 1) (own_hb x)) LL)) (.int (0 : Int32)) := own_arvm V_a1_12 (own_setR (f := own_up f (2 * i) (own_lb x)) (n := LL) (i := 2 * i + 1) (z := (own_hb x)) (by omega))
  obtain ⟨fs14, hr14, hrun14, hended14, hW14, hsame14⟩ := X12.leave (v := none) (fun _ => rfl)
  refine own_done (X12.returnOut hx hrt (hb hby d47_53) hr14) hrun14 hended14 ⟨_, _, rfl, ?_, ⟨_, rfl⟩, hW14, hsame14.mono (by decide) (by decide)⟩
  show Qpc Z a1 k LL f i x h0 n0 _ T12.heap _
  rw [e12]
  exact ⟨rfl, N12, K12, V_a1_u13⟩
theorem ef_RI_2 (m : MethodId) (x0 : Addr) (x1 : Int32) : entryFrame m #[(.ref x0), (.int x1)] 2 = mkF m 0 #[.val (.ref x0), .val (.int x1)] [] := by first | (simp [entryFrame, mkF, argsToLocals, Value.category]; done) | rfl
def Qgc (Z : State) (a1 : Addr) (k : ClassId) (LL : Nat) (f : Nat → Int32) (i : Nat) (x : Int32) (h0 : Heap) (n0 : Nat) (v : Option Value) (h : Heap) (L : List Loc) : Prop := v = some (.int x) ∧ Fr n0 L ∧ h = h0
theorem d48_0 : decode jdk_52_method_5_code 0 = .ok (.getstatic 44, 3) := by decide +kernel
theorem d48_3 : decode jdk_52_method_5_code 3 = .ok (.ifCond .ne 25, 3) := by decide +kernel
theorem d48_28 : decode jdk_52_method_5_code 28 = .ok (.iload_n 1, 1) := by decide +kernel
theorem d48_29 : decode jdk_52_method_5_code 29 = .ok (.iconst 1, 1) := by decide +kernel
theorem d48_30 : decode jdk_52_method_5_code 30 = .ok (.ishl, 1) := by decide +kernel
theorem d48_31 : decode jdk_52_method_5_code 31 = .ok (.istore_n 1, 1) := by decide +kernel
theorem d48_32 : decode jdk_52_method_5_code 32 = .ok (.aload_n 0, 1) := by decide +kernel
theorem d48_33 : decode jdk_52_method_5_code 33 = .ok (.iload_n 1, 1) := by decide +kernel
theorem d48_34 : decode jdk_52_method_5_code 34 = .ok (.iinc 1 1, 3) := by decide +kernel
theorem d48_37 : decode jdk_52_method_5_code 37 = .ok (.baload, 1) := by decide +kernel
theorem d48_38 : decode jdk_52_method_5_code 38 = .ok (.sipush 255, 3) := by decide +kernel
theorem d48_41 : decode jdk_52_method_5_code 41 = .ok (.iand, 1) := by decide +kernel
theorem d48_42 : decode jdk_52_method_5_code 42 = .ok (.getstatic 59, 3) := by decide +kernel
theorem d48_45 : decode jdk_52_method_5_code 45 = .ok (.ishl, 1) := by decide +kernel
theorem d48_46 : decode jdk_52_method_5_code 46 = .ok (.aload_n 0, 1) := by decide +kernel
theorem d48_47 : decode jdk_52_method_5_code 47 = .ok (.iload_n 1, 1) := by decide +kernel
theorem d48_48 : decode jdk_52_method_5_code 48 = .ok (.baload, 1) := by decide +kernel
theorem d48_49 : decode jdk_52_method_5_code 49 = .ok (.sipush 255, 3) := by decide +kernel
theorem d48_52 : decode jdk_52_method_5_code 52 = .ok (.iand, 1) := by decide +kernel
theorem d48_53 : decode jdk_52_method_5_code 53 = .ok (.getstatic 63, 3) := by decide +kernel
theorem d48_56 : decode jdk_52_method_5_code 56 = .ok (.ishl, 1) := by decide +kernel
theorem d48_57 : decode jdk_52_method_5_code 57 = .ok (.ior, 1) := by decide +kernel
theorem d48_58 : decode jdk_52_method_5_code 58 = .ok (.i2c, 1) := by decide +kernel
theorem d48_59 : decode jdk_52_method_5_code 59 = .ok (.ireturn, 1) := by decide +kernel
set_option maxRecDepth 65536 in
set_option maxHeartbeats 40000000 in
theorem rmgc (l : Launch) (Z : State) (a0 : Array Value) (hw : ∀ d ∈ tables_1, d.before a0 Z = true) (ws : List Jvm.Cond) (a1 : Addr) (k : ClassId) (LL : Nat) (f : Nat → Int32) (i : Nat) (x : Int32) (h0 : Heap) (n0 : Nat) (Z0 : n0 ≤ h0.size) (V_a1 : Arv Z h0 a1 k .byte (Int32.ofNat (LL)) (List.map Value.int (own_R f LL)) (.int (0 : Int32))) (O0 : own_Old Z n0 h0) (hST : own_ST Z) (hL : LL ≤ 256) (hi : 2 * i + 1 < LL) (hb0 : f (2 * i) = own_lb x) (hb1 : f (2 * i + 1) = own_hb x) (hr : own_ch x) : own_Met l own_y48 jdk_52_method_5_code 2 (some .char) ws ⟨0, 0, 0, 0⟩ #[(.ref a1), (.int (Int32.ofNat (i)))] Z h0 (Qgc Z a1 k LL f i x h0 n0) := by
  refine own_met (plainFor_of_name pn_java_lang_StringUTF16) (fun p e s m below meth c s₁ hx hby hml hrt hlk hZ hown hnm X0 e0 es0 => ?_)
  have N0 := Fr.nil n0
  rw [ef_RI_2 m a1 (Int32.ofNat (i))]
  obtain ⟨ct, sv, hct, hsv, S__assertionsDisabled, S_HI_BYTE_SHIFT, S_LO_BYTE_SHIFT, S_COMPACT_STRINGS, S_SIOOBE_FORMATTER⟩ := id hST
  obtain ⟨T15, X15, e15, st15⟩ := getS2 X0 hx hZ hown (host := "") (Or.inl (own_h hw 229 rfl)) Via.refl e0 (S__assertionsDisabled.ext O0.2) (g := (mkF m 0 #[rv a1, iv (Int32.ofNat (i))] [])) rfl (hb hby d48_0)
  refine own_by st15 ?_
  refine own_gk (XS.ifYes X15.here hx rfl (pc0 := 3) (pc' := 28) rfl (hb hby d48_3) rfl ((if0 _ _).trans (feq (by decide : ¬ ((1 : Int32) = (0 : Int32)))).2) (by decide) (by decide)) ?_
  refine own_gk (XS.iloadN X15.here hx rfl (hb hby d48_28) rfl) ?_
  refine own_gk (XS.iconst X15.here hx rfl (hb hby d48_29)) ?_
  refine own_gk (XS.ishl X15.here hx rfl (hb hby d48_30) rfl) ?_
  show own_Fin _ _ _ _ (T15.setTop (mkF m 31 #[rv a1, iv (Int32.ofNat (i))] [(.int ((Int32.ofNat (i)) <<< ((1 : Int32) &&& 31)))]))
  rw [show ((Int32.ofNat (i)) <<< ((1 : Int32) &&& 31)) = Int32.ofNat (2 * i) from (own_shl1 (a := i) (by omega))]
  refine own_gk (XS.istoreN X15.here hx rfl (hb hby d48_31) rfl rfl) ?_
  refine own_gk (XS.aloadN X15.here hx rfl (hb hby d48_32) rfl rfl) ?_
  refine own_gk (XS.iloadN X15.here hx rfl (hb hby d48_33) rfl) ?_
  refine own_gk (XS.iinc X15.here hx rfl (hb hby d48_34) rfl rfl) ?_
  show own_Fin _ _ _ _ (T15.setTop (mkF m 37 #[rv a1, iv ((Int32.ofNat (2 * i)) + (1 : Int32))] [(.int (Int32.ofNat (2 * i))), (.ref a1)]))
  rw [show ((Int32.ofNat (2 * i)) + (1 : Int32)) = Int32.ofNat (2 * i + 1) from (own_addN (2 * i) 1)]
  obtain ⟨cl16, Ar16, qa16, Sa16, Na16, Ha16, Ga16⟩ := id V_a1
  have hin16 : ¬ ((Int32.ofNat (2 * i)) < 0 ∨ cl16.slots.size ≤ ((Int32.ofNat (2 * i))).toNatClampNeg) := inb_of Sa16 (own_inb (i := 2 * i) (n := LL) (by omega) (by omega))
  have hat16 : cl16.slots[((Int32.ofNat (2 * i))).toNatClampNeg]? = some (.int (f (2 * i))) := Has.at Ha16 hin16 (own_getV (i := 2 * i) (n := LL) (by omega) (by omega))
  refine own_by (X15.baloadBytes hx (j := (Int32.ofNat (2 * i))) (v := (.int (f (2 * i)))) (by rw [e15]; exact Ar16.1) (State.isArrayOf_alike hZ.alike Ar16.2.1) Ar16.2.2 hin16 hat16 (g := (mkF m 37 #[rv a1, iv (Int32.ofNat (2 * i + 1))] [(.int (Int32.ofNat (2 * i))), (.ref a1)])) rfl rfl (hb hby d48_37)) ?_
  refine own_gk (XS.sipush X15.here hx rfl (hb hby d48_38)) ?_
  refine own_gk (XS.iand X15.here hx rfl (hb hby d48_41) rfl) ?_
  obtain ⟨T17, X17, e17, st17⟩ := getS2 X15 hx hZ hown (host := "") (Or.inl (own_h hw 230 rfl)) Via.refl e15 (S_HI_BYTE_SHIFT.ext O0.2) (g := (mkF m 42 #[rv a1, iv (Int32.ofNat (2 * i + 1))] [(.int ((f (2 * i)) &&& (255 : Int32)))])) rfl (hb hby d48_42)
  refine own_by st17 ?_
  show own_Fin _ _ _ _ (T17.setTop (mkF m 45 #[rv a1, iv (Int32.ofNat (2 * i + 1))] [(.int (0 : Int32)), (.int ((f (2 * i)) &&& (255 : Int32)))]))
  refine own_gk (XS.ishl X17.here hx rfl (hb hby d48_45) rfl) ?_
  refine own_gk (XS.aloadN X17.here hx rfl (hb hby d48_46) rfl rfl) ?_
  refine own_gk (XS.iloadN X17.here hx rfl (hb hby d48_47) rfl) ?_
  obtain ⟨cl18, Ar18, qa18, Sa18, Na18, Ha18, Ga18⟩ := id V_a1
  have hin18 : ¬ ((Int32.ofNat (2 * i + 1)) < 0 ∨ cl18.slots.size ≤ ((Int32.ofNat (2 * i + 1))).toNatClampNeg) := inb_of Sa18 (own_inb (i := 2 * i + 1) (n := LL) (by omega) (by omega))
  have hat18 : cl18.slots[((Int32.ofNat (2 * i + 1))).toNatClampNeg]? = some (.int (f (2 * i + 1))) := Has.at Ha18 hin18 (own_getV (i := 2 * i + 1) (n := LL) (by omega) (by omega))
  refine own_by (X17.baloadBytes hx (j := (Int32.ofNat (2 * i + 1))) (v := (.int (f (2 * i + 1)))) (by rw [e17]; exact Ar18.1) (State.isArrayOf_alike hZ.alike Ar18.2.1) Ar18.2.2 hin18 hat18 (g := (mkF m 48 #[rv a1, iv (Int32.ofNat (2 * i + 1))] [(.int (Int32.ofNat (2 * i + 1))), (.ref a1), (.int (((f (2 * i)) &&& (255 : Int32)) <<< ((0 : Int32) &&& 31)))])) rfl rfl (hb hby d48_48)) ?_
  refine own_gk (XS.sipush X17.here hx rfl (hb hby d48_49)) ?_
  show own_Fin _ _ _ _ (T17.setTop (mkF m 52 #[rv a1, iv (Int32.ofNat (2 * i + 1))] [(.int (255 : Int32)), (.int (f (2 * i + 1))), (.int (((f (2 * i)) &&& (255 : Int32)) <<< ((0 : Int32) &&& 31)))]))
  refine own_gk (XS.iand X17.here hx rfl (hb hby d48_52) rfl) ?_
  obtain ⟨T19, X19, e19, st19⟩ := getS2 X17 hx hZ hown (host := "") (Or.inl (own_h hw 231 rfl)) Via.refl e17 (S_LO_BYTE_SHIFT.ext O0.2) (g := (mkF m 53 #[rv a1, iv (Int32.ofNat (2 * i + 1))] [(.int ((f (2 * i + 1)) &&& (255 : Int32))), (.int (((f (2 * i)) &&& (255 : Int32)) <<< ((0 : Int32) &&& 31)))])) rfl (hb hby d48_53)
  refine own_by st19 ?_
  refine own_gk (XS.ishl X19.here hx rfl (hb hby d48_56) rfl) ?_
  refine own_gk (XS.ior X19.here hx rfl (hb hby d48_57) rfl) ?_
  refine own_gk (XS.i2c X19.here hx rfl (hb hby d48_58) rfl) ?_
  show own_Fin _ _ _ _ (T19.setTop (mkF m 59 #[rv a1, iv (Int32.ofNat (2 * i + 1))] [(.int (((((f (2 * i)) &&& (255 : Int32)) <<< ((0 : Int32) &&& 31)) ||| (((f (2 * i + 1)) &&& (255 : Int32)) <<< ((8 : Int32) &&& 31))).toUInt32.toUInt16.toUInt32.toInt32))]))
  obtain ⟨fs20, hr20, hrun20, hended20, hW20, hsame20⟩ := X19.leave (v := some (.int (nar .char (((((f (2 * i)) &&& (255 : Int32)) <<< ((0 : Int32) &&& 31)) ||| (((f (2 * i + 1)) &&& (255 : Int32)) <<< ((8 : Int32) &&& 31))).toUInt32.toUInt16.toUInt32.toInt32)))) (fun h => by rw [hrt] at h; cases h)
  refine own_done (retN X19 hx (t := .char) hrt (by simp) (hb hby d48_59) hr20) hrun20 hended20 ⟨_, _, rfl, ?_, ⟨_, rfl⟩, hW20, hsame20.mono (by decide) (by decide)⟩
  show Qgc Z a1 k LL f i x h0 n0 _ T19.heap _
  rw [e19]
  exact ⟨(by rw [hb0, hb1, own_gc hr]), N0, rfl⟩
theorem ef_RIRII_7 (m : MethodId) (x0 : Addr) (x1 : Int32) (x2 : Addr) (x3 : Int32) (x4 : Int32) : entryFrame m #[(.ref x0), (.int x1), (.ref x2), (.int x3), (.int x4)] 7 = mkF m 0 #[.val (.ref x0), .val (.int x1), .val (.ref x2), .val (.int x3), .val (.int x4), .unset, .unset] [] := by first | (simp [entryFrame, mkF, argsToLocals, Value.category]; done) | rfl
def QcmL (Z : State) (a1 : Addr) (k : ClassId) (a3 : Addr) (kb : ClassId) (N : Nat) (cs : Nat → Int32) (h0 : Heap) (n0 : Nat) (v : Option Value) (h : Heap) (L : List Loc) : Prop := v = some (.int (Int32.ofNat (N))) ∧ Fr n0 L ∧ Keep h0 h [a3] ∧ Arv Z h a3 kb .byte (Int32.ofNat (N)) (List.map Value.int (own_R (own_lo cs) N)) (.int (0 : Int32))
theorem d33_0 : decode jdk_52_method_21_code 0 = .ok (.iconst 0, 1) := by decide +kernel
theorem d33_1 : decode jdk_52_method_21_code 1 = .ok (.istore 5, 2) := by decide +kernel
theorem d33_3 : decode jdk_52_method_21_code 3 = .ok (.iload 5, 2) := by decide +kernel
theorem d33_5 : decode jdk_52_method_21_code 5 = .ok (.iload 4, 2) := by decide +kernel
theorem d33_7 : decode jdk_52_method_21_code 7 = .ok (.if_icmp .ge 37, 3) := by decide +kernel
theorem d33_44 : decode jdk_52_method_21_code 44 = .ok (.iload 4, 2) := by decide +kernel
theorem d33_46 : decode jdk_52_method_21_code 46 = .ok (.ireturn, 1) := by decide +kernel
theorem d33_10 : decode jdk_52_method_21_code 10 = .ok (.aload_n 0, 1) := by decide +kernel
theorem d33_11 : decode jdk_52_method_21_code 11 = .ok (.iload_n 1, 1) := by decide +kernel
theorem d33_12 : decode jdk_52_method_21_code 12 = .ok (.caload, 1) := by decide +kernel
theorem d33_13 : decode jdk_52_method_21_code 13 = .ok (.istore 6, 2) := by decide +kernel
theorem d33_15 : decode jdk_52_method_21_code 15 = .ok (.iload 6, 2) := by decide +kernel
theorem d33_17 : decode jdk_52_method_21_code 17 = .ok (.sipush 255, 3) := by decide +kernel
theorem d33_20 : decode jdk_52_method_21_code 20 = .ok (.if_icmp .le 6, 3) := by decide +kernel
theorem d33_26 : decode jdk_52_method_21_code 26 = .ok (.aload_n 2, 1) := by decide +kernel
theorem d33_27 : decode jdk_52_method_21_code 27 = .ok (.iload_n 3, 1) := by decide +kernel
theorem d33_28 : decode jdk_52_method_21_code 28 = .ok (.iload 6, 2) := by decide +kernel
theorem d33_30 : decode jdk_52_method_21_code 30 = .ok (.i2b, 1) := by decide +kernel
theorem d33_31 : decode jdk_52_method_21_code 31 = .ok (.bastore, 1) := by decide +kernel
theorem d33_32 : decode jdk_52_method_21_code 32 = .ok (.iinc 1 1, 3) := by decide +kernel
theorem d33_35 : decode jdk_52_method_21_code 35 = .ok (.iinc 3 1, 3) := by decide +kernel
theorem d33_38 : decode jdk_52_method_21_code 38 = .ok (.iinc 5 1, 3) := by decide +kernel
theorem d33_41 : decode jdk_52_method_21_code 41 = .ok (.goto (-38), 3) := by decide +kernel
set_option maxRecDepth 65536 in
set_option maxHeartbeats 40000000 in
theorem rmcmL (l : Launch) (Z : State) (a0 : Array Value) (hw : ∀ d ∈ tables_1, d.before a0 Z = true) (ws : List Jvm.Cond) (a1 : Addr) (k : ClassId) (a3 : Addr) (kb : ClassId) (N : Nat) (cs : Nat → Int32) (h0 : Heap) (n0 : Nat) (Z0 : n0 ≤ h0.size) (V_a1 : Arv Z h0 a1 k .char (Int32.ofNat (N)) (List.map Value.int (own_R cs N)) (.int (0 : Int32))) (V_a3 : Arv Z h0 a3 kb .byte (Int32.ofNat (N)) (List.map Value.int (own_R ((fun _ => (0 : Int32))) N)) (.int (0 : Int32))) (g_a3 : n0 ≤ a3) (ne13 : a1 ≠ a3) (hN : N ≤ 64) (hal : ∀ i, i < N → ¬ (255 : Int32) < cs i) : own_Met l own_y33 jdk_52_method_21_code 7 (some .int) ws ⟨0, 0, 0, 0⟩ #[(.ref a1), (.int (0 : Int32)), (.ref a3), (.int (0 : Int32)), (.int (Int32.ofNat (N)))] Z h0 (QcmL Z a1 k a3 kb N cs h0 n0) := by
  refine own_met (plainFor_of_name pn_java_lang_StringUTF16) (fun p e s m below meth c s₁ hx hby hml hrt hlk hZ hown hnm X0 e0 es0 => ?_)
  have N0 := Fr.nil n0
  rw [ef_RIRII_7 m a1 (0 : Int32) a3 (0 : Int32) (Int32.ofNat (N))]
  have Kz := Keep.refl h0 [a3]
  refine own_gk (XS.iconst X0.here hx rfl (hb hby d33_0)) ?_
  refine own_gk (XS.istore X0.here hx rfl (hb hby d33_1) rfl rfl) ?_
  have lp21 : ∀ (d : Nat) (Tj21 : State) (Lj21 : List Loc) (hp21 : Heap) (i : Nat) (f : Nat → Int32) (s6 : Slot), Stand p l e ⟨0, 0, 0, 0⟩ s m #[(.ref a1), (.int (0 : Int32)), (.ref a3), (.int (0 : Int32)), (.int (Int32.ofNat (N)))] below meth c Tj21 Lj21 0 0 → Tj21.heap = hp21 → Fr n0 Lj21 → n0 ≤ hp21.size → Keep h0 hp21 [a3] → (Arv Z hp21 a3 kb .byte (Int32.ofNat (N)) (List.map Value.int (own_R f N)) (.int (0 : Int32))) → (i + d = N ∧ (∀ j, j < i → f j = own_lo cs j) ∧ (s6 = .unset ∨ ∃ x : Int32, s6 = .val (.int x))) → own_Fin p e below (own_Gq (QcmL Z a1 k a3 kb N cs h0 n0) ⟨0, 0, 0, 0⟩ s) (Tj21.setTop (mkF m 3 #[rv a1, iv (Int32.ofNat (i)), rv a3, iv (Int32.ofNat (i)), iv (Int32.ofNat (N)), iv (Int32.ofNat (i)), s6] [])) := by
    intro d
    induction d with
    | zero =>
      intro Tj21 Lj21 hp21 i f s6 Xj21 ej21 Nj21 Zj21 Kj21 Vj21_0 hv21
      have V_a1_j21 := V_a1.keep Kj21 (ninS ne13 nin0)
      obtain ⟨hv1, hv2, hs_s6⟩ := hv21
      refine own_gk (XS.iload Xj21.here hx rfl (hb hby d33_3) rfl) ?_
      refine own_gk (XS.iload Xj21.here hx rfl (hb hby d33_5) rfl) ?_
      show own_Fin _ _ _ _ (Tj21.setTop (mkF m 7 #[rv a1, iv (Int32.ofNat (i)), rv a3, iv (Int32.ofNat (i)), iv (Int32.ofNat (N)), iv (Int32.ofNat (i)), s6] [(.int (Int32.ofNat (N))), (.int (Int32.ofNat (i)))]))
      refine own_gk (XS.icmpYes Xj21.here hx rfl (pc0 := 7) (pc' := 44) rfl (hb hby d33_7) rfl (flt (show ¬ ((Int32.ofNat (i)) < (Int32.ofNat (N))) from (fun q => absurd ((own_ltN (a := i) (b := N) (by omega) (by omega)).mp q) (by omega)))).2.1 (by decide) (by decide)) ?_
      refine own_gk (XS.iload Xj21.here hx rfl (hb hby d33_44) rfl) ?_
      obtain ⟨fs22, hr22, hrun22, hended22, hW22, hsame22⟩ := Xj21.leave (v := some (.int (Int32.ofNat (N)))) (fun h => by rw [hrt] at h; cases h)
      refine own_done (own_retI Xj21 hx hrt (hb hby d33_46) hr22) hrun22 hended22 ⟨_, _, rfl, ?_, ⟨_, rfl⟩, hW22, hsame22.mono (by decide) (by decide)⟩
      show QcmL Z a1 k a3 kb N cs h0 n0 _ Tj21.heap _
      rw [ej21]
      exact ⟨rfl, Nj21, Kj21, (own_arvm Vj21_0 (own_congR (f := f) (g := own_lo cs) (n := N) (fun j hj => hv2 j (by omega))))⟩
    | succ d ih21 =>
      intro Tj21 Lj21 hp21 i f s6 Xj21 ej21 Nj21 Zj21 Kj21 Vj21_0 hv21
      have V_a1_j21 := V_a1.keep Kj21 (ninS ne13 nin0)
      obtain ⟨hv1, hv2, hs_s6⟩ := hv21
      refine own_gk (XS.iload Xj21.here hx rfl (hb hby d33_3) rfl) ?_
      refine own_gk (XS.iload Xj21.here hx rfl (hb hby d33_5) rfl) ?_
      show own_Fin _ _ _ _ (Tj21.setTop (mkF m 7 #[rv a1, iv (Int32.ofNat (i)), rv a3, iv (Int32.ofNat (i)), iv (Int32.ofNat (N)), iv (Int32.ofNat (i)), s6] [(.int (Int32.ofNat (N))), (.int (Int32.ofNat (i)))]))
      refine own_gk (XS.icmpNo Xj21.here hx rfl (hb hby d33_7) rfl (tlt (show (Int32.ofNat (i)) < (Int32.ofNat (N)) from ((own_ltN (a := i) (b := N) (by omega) (by omega)).mpr (by omega)))).2.1) ?_
      refine own_gk (XS.aloadN Xj21.here hx rfl (hb hby d33_10) rfl rfl) ?_
      refine own_gk (XS.iloadN Xj21.here hx rfl (hb hby d33_11) rfl) ?_
      obtain ⟨cl23, Ar23, qa23, Sa23, Na23, Ha23, Ga23⟩ := id V_a1_j21
      have hin23 : ¬ ((Int32.ofNat (i)) < 0 ∨ cl23.slots.size ≤ ((Int32.ofNat (i))).toNatClampNeg) := inb_of Sa23 (own_inb (i := i) (n := N) (by omega) (by omega))
      have hat23 : cl23.slots[((Int32.ofNat (i))).toNatClampNeg]? = some (.int (cs i)) := Has.at Ha23 hin23 (own_getV (i := i) (n := N) (by omega) (by omega))
      refine own_by (Xj21.caload hx (j := (Int32.ofNat (i))) (v := (.int (cs i))) (by rw [ej21]; exact Ar23.1) (State.isArrayOf_alike hZ.alike Ar23.2.1) Ar23.2.2 hin23 hat23 (g := (mkF m 12 #[rv a1, iv (Int32.ofNat (i)), rv a3, iv (Int32.ofNat (i)), iv (Int32.ofNat (N)), iv (Int32.ofNat (i)), s6] [(.int (Int32.ofNat (i))), (.ref a1)])) rfl rfl (hb hby d33_12)) ?_
      refine own_gk (XS.istore Xj21.here hx rfl (l' := #[rv a1, iv (Int32.ofNat (i)), rv a3, iv (Int32.ofNat (i)), iv (Int32.ofNat (N)), iv (Int32.ofNat (i)), iv (cs i)]) (hb hby d33_13) rfl (by rcases hs_s6 with rfl | ⟨x_, rfl⟩ <;> rfl)) ?_
      show own_Fin _ _ _ _ (Tj21.setTop (mkF m 15 #[rv a1, iv (Int32.ofNat (i)), rv a3, iv (Int32.ofNat (i)), iv (Int32.ofNat (N)), iv (Int32.ofNat (i)), iv (cs i)] []))
      refine own_gk (XS.iload Xj21.here hx rfl (hb hby d33_15) rfl) ?_
      refine own_gk (XS.sipush Xj21.here hx rfl (hb hby d33_17)) ?_
      refine own_gk (XS.icmpYes Xj21.here hx rfl (pc0 := 20) (pc' := 26) rfl (hb hby d33_20) rfl (flt (show ¬ ((255 : Int32) < (cs i)) from (hal _ (by omega)))).2.2.2 (by decide) (by decide)) ?_
      refine own_gk (XS.aloadN Xj21.here hx rfl (hb hby d33_26) rfl rfl) ?_
      refine own_gk (XS.iloadN Xj21.here hx rfl (hb hby d33_27) rfl) ?_
      show own_Fin _ _ _ _ (Tj21.setTop (mkF m 28 #[rv a1, iv (Int32.ofNat (i)), rv a3, iv (Int32.ofNat (i)), iv (Int32.ofNat (N)), iv (Int32.ofNat (i)), iv (cs i)] [(.int (Int32.ofNat (i))), (.ref a3)]))
      refine own_gk (XS.iload Xj21.here hx rfl (hb hby d33_28) rfl) ?_
      refine own_gk (XS.i2b Xj21.here hx rfl (hb hby d33_30) rfl) ?_
      obtain ⟨cl24, Ar24, qa24, Sa24, Na24, Ha24, Ga24⟩ := id Vj21_0
      have hin24 : ¬ ((Int32.ofNat (i)) < 0 ∨ cl24.slots.size ≤ ((Int32.ofNat (i))).toNatClampNeg) := inb_of Sa24 (own_inb (i := i) (n := N) (by omega) (by omega))
      obtain ⟨T25, h25, X25, e25, W25, st25⟩ := stB Xj21 hx hZ ej21 Ar24 (j := (Int32.ofNat (i))) hin24 (g := (mkF m 31 #[rv a1, iv (Int32.ofNat (i)), rv a3, iv (Int32.ofNat (i)), iv (Int32.ofNat (N)), iv (Int32.ofNat (i)), iv (cs i)] [(.int ((cs i).toInt8.toInt32)), (.int (Int32.ofNat (i))), (.ref a3)])) rfl rfl (hb hby d33_31)
      refine own_by st25 ?_
      have V_a3_25 : Arv Z h25 a3 kb .byte (Int32.ofNat (N)) (List.map Value.int ((own_R f N).set ((Int32.ofNat (i))).toNatClampNeg (nar .byte ((cs i).toInt8.toInt32)))) (.int (0 : Int32)) := by
        rw [List.map_set]; exact Arv.set Ar24 qa24 Sa24 Na24 Ha24 Ga24 (fits_nar_byte ((cs i).toInt8.toInt32)) W25 _ rfl (own_inl (i := i) (n := N) (by omega) (by omega))
      have V_a1_j21_25 := V_a1_j21.other W25 ne13
      have N25 := Fr.snoc X25 Nj21 g_a3
      have Z25 : n0 ≤ h25.size := Nat.le_trans Zj21 (Keep.of_wr W25).1
      have K25 := Kj21.wr W25 (Or.inl (List.mem_of_getElem? (i := 0) rfl))
      have V_a3_u26 : Arv Z h25 a3 kb .byte (Int32.ofNat (N)) (List.map Value.int (own_R (own_up f i (nar .byte ((cs i).toInt8.toInt32))) N)) (.int (0 : Int32)) := own_arvm V_a3_25 (own_setR (f := f) (n := N) (i := i) (z := (nar .byte ((cs i).toInt8.toInt32))) (by omega))
      refine own_gk (XS.iinc X25.here hx rfl (hb hby d33_32) rfl rfl) ?_
      show own_Fin _ _ _ _ (T25.setTop (mkF m 35 #[rv a1, iv ((Int32.ofNat (i)) + (1 : Int32)), rv a3, iv (Int32.ofNat (i)), iv (Int32.ofNat (N)), iv (Int32.ofNat (i)), iv (cs i)] []))
      rw [show ((Int32.ofNat (i)) + (1 : Int32)) = Int32.ofNat (i + 1) from (own_addN i 1)]
      refine own_gk (XS.iinc X25.here hx rfl (hb hby d33_35) rfl rfl) ?_
      show own_Fin _ _ _ _ (T25.setTop (mkF m 38 #[rv a1, iv (Int32.ofNat (i + 1)), rv a3, iv ((Int32.ofNat (i)) + (1 : Int32)), iv (Int32.ofNat (N)), iv (Int32.ofNat (i)), iv (cs i)] []))
      rw [show ((Int32.ofNat (i)) + (1 : Int32)) = Int32.ofNat (i + 1) from (own_addN i 1)]
      refine own_gk (XS.iinc X25.here hx rfl (hb hby d33_38) rfl rfl) ?_
      show own_Fin _ _ _ _ (T25.setTop (mkF m 41 #[rv a1, iv (Int32.ofNat (i + 1)), rv a3, iv (Int32.ofNat (i + 1)), iv (Int32.ofNat (N)), iv ((Int32.ofNat (i)) + (1 : Int32)), iv (cs i)] []))
      rw [show ((Int32.ofNat (i)) + (1 : Int32)) = Int32.ofNat (i + 1) from (own_addN i 1)]
      refine own_gk (XS.goto X25.here hx rfl (pc0 := 41) (pc' := 3) rfl (hb hby d33_41) (by decide) (by decide)) ?_
      exact ih21 T25 _ h25 (i + 1) (own_up f i (nar .byte ((cs i).toInt8.toInt32))) (iv (cs i)) X25 e25 N25 Z25 K25 V_a3_u26 (⟨by omega, own_ext1 hv2 rfl, Or.inr ⟨_, rfl⟩⟩)
  exact lp21 N s₁ _ h0 0 (fun _ => (0 : Int32)) .unset X0 e0 N0 Z0 Kz V_a3 (⟨by omega, fun j hj => absurd hj (Nat.not_lt_zero _), Or.inl rfl⟩)
def QcmU (Z : State) (a1 : Addr) (k : ClassId) (a3 : Addr) (kb : ClassId) (N : Nat) (cs : Nat → Int32) (i0 : Nat) (h0 : Heap) (n0 : Nat) (v : Option Value) (h : Heap) (L : List Loc) : Prop := v = some (.int (Int32.ofNat (i0))) ∧ Fr n0 L ∧ Keep h0 h [a3]
theorem d33_23 : decode jdk_52_method_21_code 23 = .ok (.iload 5, 2) := by decide +kernel
theorem d33_25 : decode jdk_52_method_21_code 25 = .ok (.ireturn, 1) := by decide +kernel
set_option maxRecDepth 65536 in
set_option maxHeartbeats 40000000 in
theorem rmcmU (l : Launch) (Z : State) (a0 : Array Value) (hw : ∀ d ∈ tables_1, d.before a0 Z = true) (ws : List Jvm.Cond) (a1 : Addr) (k : ClassId) (a3 : Addr) (kb : ClassId) (N : Nat) (cs : Nat → Int32) (i0 : Nat) (h0 : Heap) (n0 : Nat) (Z0 : n0 ≤ h0.size) (V_a1 : Arv Z h0 a1 k .char (Int32.ofNat (N)) (List.map Value.int (own_R cs N)) (.int (0 : Int32))) (V_a3 : Arv Z h0 a3 kb .byte (Int32.ofNat (N)) (List.map Value.int (own_R ((fun _ => (0 : Int32))) N)) (.int (0 : Int32))) (g_a3 : n0 ≤ a3) (ne13 : a1 ≠ a3) (hN : N ≤ 64) (hi0 : i0 < N) (hbig : (255 : Int32) < cs i0) (hlt : ∀ j, j < i0 → ¬ (255 : Int32) < cs j) : own_Met l own_y33 jdk_52_method_21_code 7 (some .int) ws ⟨0, 0, 0, 0⟩ #[(.ref a1), (.int (0 : Int32)), (.ref a3), (.int (0 : Int32)), (.int (Int32.ofNat (N)))] Z h0 (QcmU Z a1 k a3 kb N cs i0 h0 n0) := by
  refine own_met (plainFor_of_name pn_java_lang_StringUTF16) (fun p e s m below meth c s₁ hx hby hml hrt hlk hZ hown hnm X0 e0 es0 => ?_)
  have N0 := Fr.nil n0
  rw [ef_RIRII_7 m a1 (0 : Int32) a3 (0 : Int32) (Int32.ofNat (N))]
  have Kz := Keep.refl h0 [a3]
  refine own_gk (XS.iconst X0.here hx rfl (hb hby d33_0)) ?_
  refine own_gk (XS.istore X0.here hx rfl (hb hby d33_1) rfl rfl) ?_
  have lp27 : ∀ (d : Nat) (Tj27 : State) (Lj27 : List Loc) (hp27 : Heap) (i : Nat) (f : Nat → Int32) (s6 : Slot), Stand p l e ⟨0, 0, 0, 0⟩ s m #[(.ref a1), (.int (0 : Int32)), (.ref a3), (.int (0 : Int32)), (.int (Int32.ofNat (N)))] below meth c Tj27 Lj27 0 0 → Tj27.heap = hp27 → Fr n0 Lj27 → n0 ≤ hp27.size → Keep h0 hp27 [a3] → (Arv Z hp27 a3 kb .byte (Int32.ofNat (N)) (List.map Value.int (own_R f N)) (.int (0 : Int32))) → (i + d = i0 ∧ (s6 = .unset ∨ ∃ x : Int32, s6 = .val (.int x))) → own_Fin p e below (own_Gq (QcmU Z a1 k a3 kb N cs i0 h0 n0) ⟨0, 0, 0, 0⟩ s) (Tj27.setTop (mkF m 3 #[rv a1, iv (Int32.ofNat (i)), rv a3, iv (Int32.ofNat (i)), iv (Int32.ofNat (N)), iv (Int32.ofNat (i)), s6] [])) := by
    intro d
    induction d with
    | zero =>
      intro Tj27 Lj27 hp27 i f s6 Xj27 ej27 Nj27 Zj27 Kj27 Vj27_0 hv27
      have V_a1_j27 := V_a1.keep Kj27 (ninS ne13 nin0)
      obtain ⟨hv1, hs_s6⟩ := hv27
      refine own_gk (XS.iload Xj27.here hx rfl (hb hby d33_3) rfl) ?_
      refine own_gk (XS.iload Xj27.here hx rfl (hb hby d33_5) rfl) ?_
      show own_Fin _ _ _ _ (Tj27.setTop (mkF m 7 #[rv a1, iv (Int32.ofNat (i)), rv a3, iv (Int32.ofNat (i)), iv (Int32.ofNat (N)), iv (Int32.ofNat (i)), s6] [(.int (Int32.ofNat (N))), (.int (Int32.ofNat (i)))]))
      refine own_gk (XS.icmpNo Xj27.here hx rfl (hb hby d33_7) rfl (tlt (show (Int32.ofNat (i)) < (Int32.ofNat (N)) from ((own_ltN (a := i) (b := N) (by omega) (by omega)).mpr (by omega)))).2.1) ?_
      refine own_gk (XS.aloadN Xj27.here hx rfl (hb hby d33_10) rfl rfl) ?_
      refine own_gk (XS.iloadN Xj27.here hx rfl (hb hby d33_11) rfl) ?_
      obtain ⟨cl28, Ar28, qa28, Sa28, Na28, Ha28, Ga28⟩ := id V_a1_j27
      have hin28 : ¬ ((Int32.ofNat (i)) < 0 ∨ cl28.slots.size ≤ ((Int32.ofNat (i))).toNatClampNeg) := inb_of Sa28 (own_inb (i := i) (n := N) (by omega) (by omega))
      have hat28 : cl28.slots[((Int32.ofNat (i))).toNatClampNeg]? = some (.int (cs i)) := Has.at Ha28 hin28 (own_getV (i := i) (n := N) (by omega) (by omega))
      refine own_by (Xj27.caload hx (j := (Int32.ofNat (i))) (v := (.int (cs i))) (by rw [ej27]; exact Ar28.1) (State.isArrayOf_alike hZ.alike Ar28.2.1) Ar28.2.2 hin28 hat28 (g := (mkF m 12 #[rv a1, iv (Int32.ofNat (i)), rv a3, iv (Int32.ofNat (i)), iv (Int32.ofNat (N)), iv (Int32.ofNat (i)), s6] [(.int (Int32.ofNat (i))), (.ref a1)])) rfl rfl (hb hby d33_12)) ?_
      refine own_gk (XS.istore Xj27.here hx rfl (l' := #[rv a1, iv (Int32.ofNat (i)), rv a3, iv (Int32.ofNat (i)), iv (Int32.ofNat (N)), iv (Int32.ofNat (i)), iv (cs i)]) (hb hby d33_13) rfl (by rcases hs_s6 with rfl | ⟨x_, rfl⟩ <;> rfl)) ?_
      show own_Fin _ _ _ _ (Tj27.setTop (mkF m 15 #[rv a1, iv (Int32.ofNat (i)), rv a3, iv (Int32.ofNat (i)), iv (Int32.ofNat (N)), iv (Int32.ofNat (i)), iv (cs i)] []))
      refine own_gk (XS.iload Xj27.here hx rfl (hb hby d33_15) rfl) ?_
      refine own_gk (XS.sipush Xj27.here hx rfl (hb hby d33_17)) ?_
      refine own_gk (XS.icmpNo Xj27.here hx rfl (hb hby d33_20) rfl (tlt (show (255 : Int32) < (cs i) from (by rw [show i = i0 by omega]; exact hbig))).2.2.2) ?_
      refine own_gk (XS.iload Xj27.here hx rfl (hb hby d33_23) rfl) ?_
      obtain ⟨fs29, hr29, hrun29, hended29, hW29, hsame29⟩ := Xj27.leave (v := some (.int (Int32.ofNat (i)))) (fun h => by rw [hrt] at h; cases h)
      refine own_done (own_retI Xj27 hx hrt (hb hby d33_25) hr29) hrun29 hended29 ⟨_, _, rfl, ?_, ⟨_, rfl⟩, hW29, hsame29.mono (by decide) (by decide)⟩
      show QcmU Z a1 k a3 kb N cs i0 h0 n0 _ Tj27.heap _
      rw [ej27]
      exact ⟨(by rw [show i = i0 by omega]), Nj27, Kj27⟩
    | succ d ih27 =>
      intro Tj27 Lj27 hp27 i f s6 Xj27 ej27 Nj27 Zj27 Kj27 Vj27_0 hv27
      have V_a1_j27 := V_a1.keep Kj27 (ninS ne13 nin0)
      obtain ⟨hv1, hs_s6⟩ := hv27
      refine own_gk (XS.iload Xj27.here hx rfl (hb hby d33_3) rfl) ?_
      refine own_gk (XS.iload Xj27.here hx rfl (hb hby d33_5) rfl) ?_
      show own_Fin _ _ _ _ (Tj27.setTop (mkF m 7 #[rv a1, iv (Int32.ofNat (i)), rv a3, iv (Int32.ofNat (i)), iv (Int32.ofNat (N)), iv (Int32.ofNat (i)), s6] [(.int (Int32.ofNat (N))), (.int (Int32.ofNat (i)))]))
      refine own_gk (XS.icmpNo Xj27.here hx rfl (hb hby d33_7) rfl (tlt (show (Int32.ofNat (i)) < (Int32.ofNat (N)) from ((own_ltN (a := i) (b := N) (by omega) (by omega)).mpr (by omega)))).2.1) ?_
      refine own_gk (XS.aloadN Xj27.here hx rfl (hb hby d33_10) rfl rfl) ?_
      refine own_gk (XS.iloadN Xj27.here hx rfl (hb hby d33_11) rfl) ?_
      obtain ⟨cl30, Ar30, qa30, Sa30, Na30, Ha30, Ga30⟩ := id V_a1_j27
      have hin30 : ¬ ((Int32.ofNat (i)) < 0 ∨ cl30.slots.size ≤ ((Int32.ofNat (i))).toNatClampNeg) := inb_of Sa30 (own_inb (i := i) (n := N) (by omega) (by omega))
      have hat30 : cl30.slots[((Int32.ofNat (i))).toNatClampNeg]? = some (.int (cs i)) := Has.at Ha30 hin30 (own_getV (i := i) (n := N) (by omega) (by omega))
      refine own_by (Xj27.caload hx (j := (Int32.ofNat (i))) (v := (.int (cs i))) (by rw [ej27]; exact Ar30.1) (State.isArrayOf_alike hZ.alike Ar30.2.1) Ar30.2.2 hin30 hat30 (g := (mkF m 12 #[rv a1, iv (Int32.ofNat (i)), rv a3, iv (Int32.ofNat (i)), iv (Int32.ofNat (N)), iv (Int32.ofNat (i)), s6] [(.int (Int32.ofNat (i))), (.ref a1)])) rfl rfl (hb hby d33_12)) ?_
      refine own_gk (XS.istore Xj27.here hx rfl (l' := #[rv a1, iv (Int32.ofNat (i)), rv a3, iv (Int32.ofNat (i)), iv (Int32.ofNat (N)), iv (Int32.ofNat (i)), iv (cs i)]) (hb hby d33_13) rfl (by rcases hs_s6 with rfl | ⟨x_, rfl⟩ <;> rfl)) ?_
      show own_Fin _ _ _ _ (Tj27.setTop (mkF m 15 #[rv a1, iv (Int32.ofNat (i)), rv a3, iv (Int32.ofNat (i)), iv (Int32.ofNat (N)), iv (Int32.ofNat (i)), iv (cs i)] []))
      refine own_gk (XS.iload Xj27.here hx rfl (hb hby d33_15) rfl) ?_
      refine own_gk (XS.sipush Xj27.here hx rfl (hb hby d33_17)) ?_
      refine own_gk (XS.icmpYes Xj27.here hx rfl (pc0 := 20) (pc' := 26) rfl (hb hby d33_20) rfl (flt (show ¬ ((255 : Int32) < (cs i)) from (hlt _ (by omega)))).2.2.2 (by decide) (by decide)) ?_
      refine own_gk (XS.aloadN Xj27.here hx rfl (hb hby d33_26) rfl rfl) ?_
      refine own_gk (XS.iloadN Xj27.here hx rfl (hb hby d33_27) rfl) ?_
      show own_Fin _ _ _ _ (Tj27.setTop (mkF m 28 #[rv a1, iv (Int32.ofNat (i)), rv a3, iv (Int32.ofNat (i)), iv (Int32.ofNat (N)), iv (Int32.ofNat (i)), iv (cs i)] [(.int (Int32.ofNat (i))), (.ref a3)]))
      refine own_gk (XS.iload Xj27.here hx rfl (hb hby d33_28) rfl) ?_
      refine own_gk (XS.i2b Xj27.here hx rfl (hb hby d33_30) rfl) ?_
      obtain ⟨cl31, Ar31, qa31, Sa31, Na31, Ha31, Ga31⟩ := id Vj27_0
      have hin31 : ¬ ((Int32.ofNat (i)) < 0 ∨ cl31.slots.size ≤ ((Int32.ofNat (i))).toNatClampNeg) := inb_of Sa31 (own_inb (i := i) (n := N) (by omega) (by omega))
      obtain ⟨T32, h32, X32, e32, W32, st32⟩ := stB Xj27 hx hZ ej27 Ar31 (j := (Int32.ofNat (i))) hin31 (g := (mkF m 31 #[rv a1, iv (Int32.ofNat (i)), rv a3, iv (Int32.ofNat (i)), iv (Int32.ofNat (N)), iv (Int32.ofNat (i)), iv (cs i)] [(.int ((cs i).toInt8.toInt32)), (.int (Int32.ofNat (i))), (.ref a3)])) rfl rfl (hb hby d33_31)
      refine own_by st32 ?_
      have V_a3_32 : Arv Z h32 a3 kb .byte (Int32.ofNat (N)) (List.map Value.int ((own_R f N).set ((Int32.ofNat (i))).toNatClampNeg (nar .byte ((cs i).toInt8.toInt32)))) (.int (0 : Int32)) := by
        rw [List.map_set]; exact Arv.set Ar31 qa31 Sa31 Na31 Ha31 Ga31 (fits_nar_byte ((cs i).toInt8.toInt32)) W32 _ rfl (own_inl (i := i) (n := N) (by omega) (by omega))
      have V_a1_j27_32 := V_a1_j27.other W32 ne13
      have N32 := Fr.snoc X32 Nj27 g_a3
      have Z32 : n0 ≤ h32.size := Nat.le_trans Zj27 (Keep.of_wr W32).1
      have K32 := Kj27.wr W32 (Or.inl (List.mem_of_getElem? (i := 0) rfl))
      have V_a3_u33 : Arv Z h32 a3 kb .byte (Int32.ofNat (N)) (List.map Value.int (own_R (own_up f i (nar .byte ((cs i).toInt8.toInt32))) N)) (.int (0 : Int32)) := own_arvm V_a3_32 (own_setR (f := f) (n := N) (i := i) (z := (nar .byte ((cs i).toInt8.toInt32))) (by omega))
      refine own_gk (XS.iinc X32.here hx rfl (hb hby d33_32) rfl rfl) ?_
      show own_Fin _ _ _ _ (T32.setTop (mkF m 35 #[rv a1, iv ((Int32.ofNat (i)) + (1 : Int32)), rv a3, iv (Int32.ofNat (i)), iv (Int32.ofNat (N)), iv (Int32.ofNat (i)), iv (cs i)] []))
      rw [show ((Int32.ofNat (i)) + (1 : Int32)) = Int32.ofNat (i + 1) from (own_addN i 1)]
      refine own_gk (XS.iinc X32.here hx rfl (hb hby d33_35) rfl rfl) ?_
      show own_Fin _ _ _ _ (T32.setTop (mkF m 38 #[rv a1, iv (Int32.ofNat (i + 1)), rv a3, iv ((Int32.ofNat (i)) + (1 : Int32)), iv (Int32.ofNat (N)), iv (Int32.ofNat (i)), iv (cs i)] []))
      rw [show ((Int32.ofNat (i)) + (1 : Int32)) = Int32.ofNat (i + 1) from (own_addN i 1)]
      refine own_gk (XS.iinc X32.here hx rfl (hb hby d33_38) rfl rfl) ?_
      show own_Fin _ _ _ _ (T32.setTop (mkF m 41 #[rv a1, iv (Int32.ofNat (i + 1)), rv a3, iv (Int32.ofNat (i + 1)), iv (Int32.ofNat (N)), iv ((Int32.ofNat (i)) + (1 : Int32)), iv (cs i)] []))
      rw [show ((Int32.ofNat (i)) + (1 : Int32)) = Int32.ofNat (i + 1) from (own_addN i 1)]
      refine own_gk (XS.goto X32.here hx rfl (pc0 := 41) (pc' := 3) rfl (hb hby d33_41) (by decide) (by decide)) ?_
      exact ih27 T32 _ h32 (i + 1) (own_up f i (nar .byte ((cs i).toInt8.toInt32))) (iv (cs i)) X32 e32 N32 Z32 K32 V_a3_u33 (⟨by omega, Or.inr ⟨_, rfl⟩⟩)
  exact lp27 i0 s₁ _ h0 0 (fun _ => (0 : Int32)) .unset X0 e0 N0 Z0 Kz V_a3 (⟨by omega, Or.inl rfl⟩)
theorem ef_RII_5 (m : MethodId) (x0 : Addr) (x1 : Int32) (x2 : Int32) : entryFrame m #[(.ref x0), (.int x1), (.int x2)] 5 = mkF m 0 #[.val (.ref x0), .val (.int x1), .val (.int x2), .unset, .unset] [] := by first | (simp [entryFrame, mkF, argsToLocals, Value.category]; done) | rfl
def Qtb (Z : State) (a1 : Addr) (k : ClassId) (N : Nat) (cs : Nat → Int32) (h0 : Heap) (n0 : Nat) (v : Option Value) (h : Heap) (L : List Loc) : Prop := ∃ (b : Addr) (kb : ClassId), v = some (.ref b) ∧ Fr n0 L ∧ Keep h0 h [] ∧ n0 ≤ b ∧ h0.size ≤ b ∧ Arv Z h b kb .byte (Int32.ofNat (2 * N)) (List.map Value.int (own_R (own_u cs) (2 * N))) (.int (0 : Int32))
theorem d44_0 : decode jdk_52_method_14_code 0 = .ok (.iload_n 2, 1) := by decide +kernel
theorem d44_1 : decode jdk_52_method_14_code 1 = .ok (.invokestatic 107, 3) := by decide +kernel
theorem pd__28_I_29__5b_B : parseMethodDescriptor "(I)[B" = some ⟨[.int], some (.array .byte)⟩ := by decide +kernel
theorem d44_4 : decode jdk_52_method_14_code 4 = .ok (.astore_n 3, 1) := by decide +kernel
theorem d44_5 : decode jdk_52_method_14_code 5 = .ok (.iconst 0, 1) := by decide +kernel
theorem d44_6 : decode jdk_52_method_14_code 6 = .ok (.istore 4, 2) := by decide +kernel
theorem d44_8 : decode jdk_52_method_14_code 8 = .ok (.iload 4, 2) := by decide +kernel
theorem d44_10 : decode jdk_52_method_14_code 10 = .ok (.iload_n 2, 1) := by decide +kernel
theorem d44_11 : decode jdk_52_method_14_code 11 = .ok (.if_icmp .ge 21, 3) := by decide +kernel
theorem d44_32 : decode jdk_52_method_14_code 32 = .ok (.aload_n 3, 1) := by decide +kernel
theorem d44_33 : decode jdk_52_method_14_code 33 = .ok (.areturn, 1) := by decide +kernel
theorem d44_14 : decode jdk_52_method_14_code 14 = .ok (.aload_n 3, 1) := by decide +kernel
theorem d44_15 : decode jdk_52_method_14_code 15 = .ok (.iload 4, 2) := by decide +kernel
theorem d44_17 : decode jdk_52_method_14_code 17 = .ok (.aload_n 0, 1) := by decide +kernel
theorem d44_18 : decode jdk_52_method_14_code 18 = .ok (.iload_n 1, 1) := by decide +kernel
theorem d44_19 : decode jdk_52_method_14_code 19 = .ok (.caload, 1) := by decide +kernel
theorem d44_20 : decode jdk_52_method_14_code 20 = .ok (.invokestatic 111, 3) := by decide +kernel
theorem pd__28__5b_BII_29_V : parseMethodDescriptor "([BII)V" = some ⟨[(.array .byte), .int, .int], none⟩ := by decide +kernel
theorem d44_23 : decode jdk_52_method_14_code 23 = .ok (.iinc 1 1, 3) := by decide +kernel
theorem d44_26 : decode jdk_52_method_14_code 26 = .ok (.iinc 4 1, 3) := by decide +kernel
theorem d44_29 : decode jdk_52_method_14_code 29 = .ok (.goto (-21), 3) := by decide +kernel
set_option maxRecDepth 65536 in
set_option maxHeartbeats 40000000 in
theorem rmtb (l : Launch) (Z : State) (a0 : Array Value) (hw : ∀ d ∈ tables_1, d.before a0 Z = true) (ws : List Jvm.Cond) (a1 : Addr) (k : ClassId) (N : Nat) (cs : Nat → Int32) (h0 : Heap) (n0 : Nat) (Z0 : n0 ≤ h0.size) (V_a1 : Arv Z h0 a1 k .char (Int32.ofNat (N)) (List.map Value.int (own_R cs N)) (.int (0 : Int32))) (hN : N ≤ 64) (O0 : own_Old Z n0 h0) (hST : own_ST Z) : own_Met l own_y44 jdk_52_method_14_code 5 (some (.array .byte)) ws ⟨2, 1, 128, 24⟩ #[(.ref a1), (.int (0 : Int32)), (.int (Int32.ofNat (N)))] Z h0 (Qtb Z a1 k N cs h0 n0) := by
  refine own_met (plainFor_of_name pn_java_lang_StringUTF16) (fun p e s m below meth c s₁ hx hby hml hrt hlk hZ hown hnm X0 e0 es0 => ?_)
  have N0 := Fr.nil n0
  rw [ef_RII_5 m a1 (0 : Int32) (Int32.ofNat (N))]
  have Kz := Keep.refl h0 []
  refine own_gk (XS.iloadN X0.here hx rfl (hb hby d44_0) rfl) ?_
  obtain ⟨_, T34, Lc34, X34, hQ34, st34⟩ := own_callS X0 hx hZ hown (own_h hw 219 rfl) (own_h hw 220 rfl) (own_h hw 170 rfl) (own_h hw 221 rfl) (by decide) (rmnf l Z a0 hw [] N h0 n0 Z0 hN) (W := 0) (by decide) (by decide) (g := (mkF m 1 #[rv a1, iv (0 : Int32), iv (Int32.ofNat (N)), .unset, .unset] [(.int (Int32.ofNat (N)))])) rfl (by rw [hml]; rfl) (argsL := [(.int (Int32.ofNat (N)))]) (rest := []) (lenOf pd__28_I_29__5b_B rfl) rfl (Nat.le_of_eq rfl) (hb hby d44_1) rfl e0 (by decide) (by decide)
  refine own_go st34 ?_
  obtain ⟨b_34, kb_34, rfl, Nq34, K34, g_b_34, sb_b_34, r34_0⟩ := hQ34
  have ne_a1_b_34 : a1 ≠ b_34 := Nat.ne_of_lt (Nat.lt_of_lt_of_le V_a1.lt sb_b_34)
  have sz_b_34 : h0.size ≤ b_34 := Nat.le_trans Kz.1 sb_b_34
  have Od34 := O0.keep K34 all0
  have V_a1_34 := V_a1.keep K34 nin0
  have Z34 : n0 ≤ T34.heap.size := Nat.le_trans Z0 K34.1
  have Kt34 := Kz.trans K34 all0
  have N34 := Fr.app N0 Nq34
  refine own_gk (XS.astoreN X34.here hx rfl (hb hby d44_4) rfl rfl rfl) ?_
  refine own_gk (XS.iconst X34.here hx rfl (hb hby d44_5)) ?_
  refine own_gk (XS.istore X34.here hx rfl (hb hby d44_6) rfl rfl) ?_
  show own_Fin _ _ _ _ (T34.setTop (mkF m 8 #[rv a1, iv (0 : Int32), iv (Int32.ofNat (N)), rv b_34, iv (0 : Int32)] []))
  have lp35 : ∀ (d : Nat) (Tj35 : State) (Lj35 : List Loc) (hp35 : Heap) (i : Nat) (f : Nat → Int32), Stand p l e ⟨2, 1, 128, 24⟩ s m #[(.ref a1), (.int (0 : Int32)), (.int (Int32.ofNat (N)))] below meth c Tj35 Lj35 1 128 → Tj35.heap = hp35 → Fr n0 Lj35 → n0 ≤ hp35.size → Keep h0 hp35 [] → (Arv Z hp35 b_34 kb_34 .byte (Int32.ofNat (2 * N)) (List.map Value.int (own_R f (2 * N))) (.int (0 : Int32))) → (i + d = N ∧ ∀ j, j < 2 * i → f j = own_u cs j) → own_Fin p e below (own_Gq (Qtb Z a1 k N cs h0 n0) ⟨2, 1, 128, 24⟩ s) (Tj35.setTop (mkF m 8 #[rv a1, iv (Int32.ofNat (i)), iv (Int32.ofNat (N)), rv b_34, iv (Int32.ofNat (i))] [])) := by
    intro d
    induction d with
    | zero =>
      intro Tj35 Lj35 hp35 i f Xj35 ej35 Nj35 Zj35 Kj35 Vj35_0 hv35
      have V_a1_j35 := V_a1.keep Kj35 nin0
      have Oj35 := O0.keep Kj35 all0
      obtain ⟨hv1, hv2⟩ := hv35
      refine own_gk (XS.iload Xj35.here hx rfl (hb hby d44_8) rfl) ?_
      refine own_gk (XS.iloadN Xj35.here hx rfl (hb hby d44_10) rfl) ?_
      refine own_gk (XS.icmpYes Xj35.here hx rfl (pc0 := 11) (pc' := 32) rfl (hb hby d44_11) rfl (flt (show ¬ ((Int32.ofNat (i)) < (Int32.ofNat (N))) from (fun q => absurd ((own_ltN (a := i) (b := N) (by omega) (by omega)).mp q) (by omega)))).2.1 (by decide) (by decide)) ?_
      refine own_gk (XS.aloadN Xj35.here hx rfl (hb hby d44_32) rfl rfl) ?_
      show own_Fin _ _ _ _ (Tj35.setTop (mkF m 33 #[rv a1, iv (Int32.ofNat (i)), iv (Int32.ofNat (N)), rv b_34, iv (Int32.ofNat (i))] [(.ref b_34)]))
      obtain ⟨fs36, hr36, hrun36, hended36, hW36, hsame36⟩ := Xj35.leave (v := some (.ref b_34)) (fun h => by rw [hrt] at h; cases h)
      refine own_done (retOut Xj35 hx hrt rfl (Or.inr (Or.inr (Or.inr (Or.inr ⟨rfl, rfl, rfl⟩)))) (hb hby d44_33) hr36) hrun36 hended36 ⟨_, _, rfl, ?_, ⟨_, rfl⟩, hW36, hsame36.mono (by decide) (by decide)⟩
      show Qtb Z a1 k N cs h0 n0 _ Tj35.heap _
      rw [ej35]
      exact ⟨b_34, kb_34, rfl, Nj35, Kj35, g_b_34, sz_b_34, (own_arvm Vj35_0 (own_congR (f := f) (g := own_u cs) (n := 2 * N) (fun j hj => hv2 j (by omega))))⟩
    | succ d ih35 =>
      intro Tj35 Lj35 hp35 i f Xj35 ej35 Nj35 Zj35 Kj35 Vj35_0 hv35
      have V_a1_j35 := V_a1.keep Kj35 nin0
      have Oj35 := O0.keep Kj35 all0
      obtain ⟨hv1, hv2⟩ := hv35
      refine own_gk (XS.iload Xj35.here hx rfl (hb hby d44_8) rfl) ?_
      refine own_gk (XS.iloadN Xj35.here hx rfl (hb hby d44_10) rfl) ?_
      refine own_gk (XS.icmpNo Xj35.here hx rfl (hb hby d44_11) rfl (tlt (show (Int32.ofNat (i)) < (Int32.ofNat (N)) from ((own_ltN (a := i) (b := N) (by omega) (by omega)).mpr (by omega)))).2.1) ?_
      refine own_gk (XS.aloadN Xj35.here hx rfl (hb hby d44_14) rfl rfl) ?_
      show own_Fin _ _ _ _ (Tj35.setTop (mkF m 15 #[rv a1, iv (Int32.ofNat (i)), iv (Int32.ofNat (N)), rv b_34, iv (Int32.ofNat (i))] [(.ref b_34)]))
      refine own_gk (XS.iload Xj35.here hx rfl (hb hby d44_15) rfl) ?_
      refine own_gk (XS.aloadN Xj35.here hx rfl (hb hby d44_17) rfl rfl) ?_
      refine own_gk (XS.iloadN Xj35.here hx rfl (hb hby d44_18) rfl) ?_
      obtain ⟨cl37, Ar37, qa37, Sa37, Na37, Ha37, Ga37⟩ := id V_a1_j35
      have hin37 : ¬ ((Int32.ofNat (i)) < 0 ∨ cl37.slots.size ≤ ((Int32.ofNat (i))).toNatClampNeg) := inb_of Sa37 (own_inb (i := i) (n := N) (by omega) (by omega))
      have hat37 : cl37.slots[((Int32.ofNat (i))).toNatClampNeg]? = some (.int (cs i)) := Has.at Ha37 hin37 (own_getV (i := i) (n := N) (by omega) (by omega))
      refine own_by (Xj35.caload hx (j := (Int32.ofNat (i))) (v := (.int (cs i))) (by rw [ej35]; exact Ar37.1) (State.isArrayOf_alike hZ.alike Ar37.2.1) Ar37.2.2 hin37 hat37 (g := (mkF m 19 #[rv a1, iv (Int32.ofNat (i)), iv (Int32.ofNat (N)), rv b_34, iv (Int32.ofNat (i))] [(.int (Int32.ofNat (i))), (.ref a1), (.int (Int32.ofNat (i))), (.ref b_34)])) rfl rfl (hb hby d44_19)) ?_
      obtain ⟨_, T38, Lc38, X38, hQ38, st38⟩ := own_callS Xj35 hx hZ hown (own_h hw 226 rfl) (own_h hw 227 rfl) (own_h hw 170 rfl) (own_h hw 228 rfl) (by decide) (rmpc l Z a0 hw [] b_34 kb_34 (2 * N) f i (cs i) hp35 n0 Zj35 Vj35_0 g_b_34 Oj35 hST (by omega) (by omega)) (W := 0) (by decide) (by decide) (g := (mkF m 20 #[rv a1, iv (Int32.ofNat (i)), iv (Int32.ofNat (N)), rv b_34, iv (Int32.ofNat (i))] [(.int (cs i)), (.int (Int32.ofNat (i))), (.ref b_34)])) rfl (by rw [hml]; rfl) (argsL := [(.ref b_34), (.int (Int32.ofNat (i))), (.int (cs i))]) (rest := []) (lenOf pd__28__5b_BII_29_V rfl) rfl (Nat.le_of_eq rfl) (hb hby d44_20) rfl ej35 (by decide) (by decide)
      refine own_go st38 ?_
      obtain ⟨rfl, Nq38, K38, r38_0⟩ := hQ38
      have Od38 := Oj35.keep K38 (allS g_b_34 all0)
      have V_a1_j35_38 := V_a1_j35.keep K38 (ninS ne_a1_b_34 nin0)
      have Z38 : n0 ≤ T38.heap.size := Nat.le_trans Zj35 K38.1
      have Kt38 := Kj35.trans K38 (allS (P := fun x => x ∈ _ ∨ _ ≤ x) (Or.inr sz_b_34) all0)
      have N38 := Fr.app Nj35 Nq38
      show own_Fin _ _ _ _ (T38.setTop (mkF m 23 #[rv a1, iv (Int32.ofNat (i)), iv (Int32.ofNat (N)), rv b_34, iv (Int32.ofNat (i))] []))
      refine own_gk (XS.iinc X38.here hx rfl (hb hby d44_23) rfl rfl) ?_
      show own_Fin _ _ _ _ (T38.setTop (mkF m 26 #[rv a1, iv ((Int32.ofNat (i)) + (1 : Int32)), iv (Int32.ofNat (N)), rv b_34, iv (Int32.ofNat (i))] []))
      rw [show ((Int32.ofNat (i)) + (1 : Int32)) = Int32.ofNat (i + 1) from (own_addN i 1)]
      refine own_gk (XS.iinc X38.here hx rfl (hb hby d44_26) rfl rfl) ?_
      show own_Fin _ _ _ _ (T38.setTop (mkF m 29 #[rv a1, iv (Int32.ofNat (i + 1)), iv (Int32.ofNat (N)), rv b_34, iv ((Int32.ofNat (i)) + (1 : Int32))] []))
      rw [show ((Int32.ofNat (i)) + (1 : Int32)) = Int32.ofNat (i + 1) from (own_addN i 1)]
      refine own_gk (XS.goto X38.here hx rfl (pc0 := 29) (pc' := 8) rfl (hb hby d44_29) (by decide) (by decide)) ?_
      exact ih35 T38 _ T38.heap (i + 1) (own_up (own_up f (2 * i) (own_lb (cs i))) (2 * i + 1) (own_hb (cs i))) X38 rfl N38 Z38 Kt38 r38_0 (⟨by omega, own_ext2 hv2⟩)
  exact lp35 N T34 _ T34.heap 0 (fun _ => (0 : Int32)) X34 rfl N34 Z34 Kt34 r34_0 (⟨by omega, fun j hj => absurd hj (by omega)⟩)
theorem ef_RII_6 (m : MethodId) (x0 : Addr) (x1 : Int32) (x2 : Int32) : entryFrame m #[(.ref x0), (.int x1), (.int x2)] 6 = mkF m 0 #[.val (.ref x0), .val (.int x1), .val (.int x2), .unset, .unset, .unset] [] := by first | (simp [entryFrame, mkF, argsToLocals, Value.category]; done) | rfl
def Qc3L (Z : State) (a1 : Addr) (k : ClassId) (N : Nat) (cs : Nat → Int32) (h0 : Heap) (n0 : Nat) (v : Option Value) (h : Heap) (L : List Loc) : Prop := ∃ (b : Addr) (kb : ClassId), v = some (.ref b) ∧ Fr n0 L ∧ Keep h0 h [] ∧ n0 ≤ b ∧ h0.size ≤ b ∧ Arv Z h b kb .byte (Int32.ofNat (N)) (List.map Value.int (own_R (own_lo cs) N)) (.int (0 : Int32))
theorem d32_0 : decode jdk_52_method_16_code 0 = .ok (.iload_n 2, 1) := by decide +kernel
theorem d32_1 : decode jdk_52_method_16_code 1 = .ok (.newarray .byte, 2) := by decide +kernel
theorem d32_3 : decode jdk_52_method_16_code 3 = .ok (.astore_n 3, 1) := by decide +kernel
theorem d32_4 : decode jdk_52_method_16_code 4 = .ok (.aload_n 0, 1) := by decide +kernel
theorem d32_5 : decode jdk_52_method_16_code 5 = .ok (.iload_n 1, 1) := by decide +kernel
theorem d32_6 : decode jdk_52_method_16_code 6 = .ok (.aload_n 3, 1) := by decide +kernel
theorem d32_7 : decode jdk_52_method_16_code 7 = .ok (.iconst 0, 1) := by decide +kernel
theorem d32_8 : decode jdk_52_method_16_code 8 = .ok (.iload_n 2, 1) := by decide +kernel
theorem d32_9 : decode jdk_52_method_16_code 9 = .ok (.invokestatic 115, 3) := by decide +kernel
theorem pd__28__5b_CI_5b_BII_29_I : parseMethodDescriptor "([CI[BII)I" = some ⟨[(.array .char), .int, (.array .byte), .int, .int], some .int⟩ := by decide +kernel
theorem d32_12 : decode jdk_52_method_16_code 12 = .ok (.istore 4, 2) := by decide +kernel
theorem d32_14 : decode jdk_52_method_16_code 14 = .ok (.iload 4, 2) := by decide +kernel
theorem d32_16 : decode jdk_52_method_16_code 16 = .ok (.iload_n 2, 1) := by decide +kernel
theorem d32_17 : decode jdk_52_method_16_code 17 = .ok (.if_icmp .eq 40, 3) := by decide +kernel
theorem d32_57 : decode jdk_52_method_16_code 57 = .ok (.aload_n 3, 1) := by decide +kernel
theorem d32_58 : decode jdk_52_method_16_code 58 = .ok (.areturn, 1) := by decide +kernel
set_option maxRecDepth 65536 in
set_option maxHeartbeats 40000000 in
theorem rmc3L (l : Launch) (Z : State) (a0 : Array Value) (hw : ∀ d ∈ tables_1, d.before a0 Z = true) (ws : List Jvm.Cond) (a1 : Addr) (k : ClassId) (N : Nat) (cs : Nat → Int32) (h0 : Heap) (n0 : Nat) (Z0 : n0 ≤ h0.size) (V_a1 : Arv Z h0 a1 k .char (Int32.ofNat (N)) (List.map Value.int (own_R cs N)) (.int (0 : Int32))) (hN : N ≤ 64) (O0 : own_Old Z n0 h0) (hST : own_ST Z) (hal : ∀ i, i < N → ¬ (255 : Int32) < cs i) : own_Met l own_y32 jdk_52_method_16_code 6 (some (.array .byte)) ws ⟨1, 1, 64, 18⟩ #[(.ref a1), (.int (0 : Int32)), (.int (Int32.ofNat (N)))] Z h0 (Qc3L Z a1 k N cs h0 n0) := by
  refine own_met (plainFor_of_name pn_java_lang_StringUTF16) (fun p e s m below meth c s₁ hx hby hml hrt hlk hZ hown hnm X0 e0 es0 => ?_)
  have N0 := Fr.nil n0
  rw [ef_RII_6 m a1 (0 : Int32) (Int32.ofNat (N))]
  have Kz := Keep.refl h0 []
  refine own_gk (XS.iloadN X0.here hx rfl (hb hby d32_0) rfl) ?_
  obtain ⟨T39, h39, k39, X39, e39, E39, A39, st39⟩ := newP X0 hx hZ (own_h hw 19 rfl) e0 (g := (mkF m 1 #[rv a1, iv (0 : Int32), iv (Int32.ofNat (N)), .unset, .unset, .unset] [(.int (Int32.ofNat (N)))])) rfl (hb hby d32_1) (n := (Int32.ofNat (N))) rfl (own_nn (a := N) (by omega)) (cap := 64) (Nat.le_trans (Nat.le_of_eq (own_tn (a := N) (by omega))) (by omega)) (by decide) (by decide) (by decide)
  obtain ⟨b39, g39⟩ : ∃ z, z = h0.size := ⟨_, rfl⟩
  rw [← g39] at A39 st39
  refine own_by st39 ?_
  have ne_a1_b39 : a1 ≠ b39 := Nat.ne_of_lt (Nat.lt_of_lt_of_eq V_a1.lt g39.symm)
  have Od39 := O0.ext E39
  have V_a1_39 := V_a1.ext E39
  have g_b39 : n0 ≤ b39 := Nat.le_trans Z0 (Nat.le_of_eq g39.symm)
  have sz_b39 : h0.size ≤ b39 := Nat.le_trans Kz.1 (Nat.le_of_eq g39.symm)
  have K39 := Kz.ext E39
  have Z39 : n0 ≤ h39.size := Nat.le_trans Z0 E39.1
  have V_b39 : Arv Z h39 b39 k39 .byte (Int32.ofNat (N)) (List.map Value.int (own_R ((fun _ => (0 : Int32))) N)) (.int (0 : Int32)) := (Arv.new A39 (own_nn (a := N) (by omega))).pad (own_pad0 _)
  refine own_gk (XS.astoreN X39.here hx rfl (hb hby d32_3) rfl rfl rfl) ?_
  refine own_gk (XS.aloadN X39.here hx rfl (hb hby d32_4) rfl rfl) ?_
  refine own_gk (XS.iloadN X39.here hx rfl (hb hby d32_5) rfl) ?_
  show own_Fin _ _ _ _ (T39.setTop (mkF m 6 #[rv a1, iv (0 : Int32), iv (Int32.ofNat (N)), rv b39, .unset, .unset] [(.int (0 : Int32)), (.ref a1)]))
  refine own_gk (XS.aloadN X39.here hx rfl (hb hby d32_6) rfl rfl) ?_
  refine own_gk (XS.iconst X39.here hx rfl (hb hby d32_7)) ?_
  refine own_gk (XS.iloadN X39.here hx rfl (hb hby d32_8) rfl) ?_
  obtain ⟨_, T40, Lc40, X40, hQ40, st40⟩ := own_callS X39 hx hZ hown (own_h hw 172 rfl) (own_h hw 173 rfl) (own_h hw 170 rfl) (own_h hw 174 rfl) (by decide) (rmcmL l Z a0 hw [] a1 k b39 k39 N cs h39 n0 Z39 V_a1_39 V_b39 g_b39 ne_a1_b39 hN hal) (W := 0) (by decide) (by decide) (g := (mkF m 9 #[rv a1, iv (0 : Int32), iv (Int32.ofNat (N)), rv b39, .unset, .unset] [(.int (Int32.ofNat (N))), (.int (0 : Int32)), (.ref b39), (.int (0 : Int32)), (.ref a1)])) rfl (by rw [hml]; rfl) (argsL := [(.ref a1), (.int (0 : Int32)), (.ref b39), (.int (0 : Int32)), (.int (Int32.ofNat (N)))]) (rest := []) (lenOf pd__28__5b_CI_5b_BII_29_I rfl) rfl (Nat.le_of_eq rfl) (hb hby d32_9) rfl e39 (by decide) (by decide)
  refine own_go st40 ?_
  obtain ⟨rfl, Nq40, K40, r40_0⟩ := hQ40
  have Od40 := Od39.keep K40 (allS g_b39 all0)
  have V_a1_40 := V_a1_39.keep K40 (ninS ne_a1_b39 nin0)
  have Z40 : n0 ≤ T40.heap.size := Nat.le_trans Z39 K40.1
  have Kt40 := K39.trans K40 (allS (P := fun x => x ∈ _ ∨ _ ≤ x) (Or.inr sz_b39) all0)
  have N40 := Fr.app N0 Nq40
  refine own_gk (XS.istore X40.here hx rfl (hb hby d32_12) rfl rfl) ?_
  show own_Fin _ _ _ _ (T40.setTop (mkF m 14 #[rv a1, iv (0 : Int32), iv (Int32.ofNat (N)), rv b39, iv (Int32.ofNat (N)), .unset] []))
  refine own_gk (XS.iload X40.here hx rfl (hb hby d32_14) rfl) ?_
  refine own_gk (XS.iloadN X40.here hx rfl (hb hby d32_16) rfl) ?_
  refine own_gk (XS.icmpYes X40.here hx rfl (pc0 := 17) (pc' := 57) rfl (hb hby d32_17) rfl (teq (rfl : (Int32.ofNat (N)) = (Int32.ofNat (N)))).1 (by decide) (by decide)) ?_
  refine own_gk (XS.aloadN X40.here hx rfl (hb hby d32_57) rfl rfl) ?_
  obtain ⟨fs41, hr41, hrun41, hended41, hW41, hsame41⟩ := X40.leave (v := some (.ref b39)) (fun h => by rw [hrt] at h; cases h)
  refine own_done (retOut X40 hx hrt rfl (Or.inr (Or.inr (Or.inr (Or.inr ⟨rfl, rfl, rfl⟩)))) (hb hby d32_58) hr41) hrun41 hended41 ⟨_, _, rfl, ?_, ⟨_, rfl⟩, hW41, hsame41.mono (by decide) (by decide)⟩
  show Qc3L Z a1 k N cs h0 n0 _ T40.heap _
  exact ⟨b39, k39, rfl, N40, Kt40, g_b39, sz_b39, r40_0⟩
def Qc3U (Z : State) (a1 : Addr) (k : ClassId) (N : Nat) (cs : Nat → Int32) (i0 : Nat) (h0 : Heap) (n0 : Nat) (v : Option Value) (h : Heap) (L : List Loc) : Prop := ∃ (b : Addr) (kb : ClassId), v = some (.ref b) ∧ Fr n0 L ∧ Keep h0 h [] ∧ n0 ≤ b ∧ h0.size ≤ b ∧ Arv Z h b kb .byte (Int32.ofNat (2 * N)) (List.map Value.int (own_R (own_u cs) (2 * N))) (.int (0 : Int32))
theorem d32_20 : decode jdk_52_method_16_code 20 = .ok (.aload_n 0, 1) := by decide +kernel
theorem d32_21 : decode jdk_52_method_16_code 21 = .ok (.iload_n 1, 1) := by decide +kernel
theorem d32_22 : decode jdk_52_method_16_code 22 = .ok (.iload_n 2, 1) := by decide +kernel
theorem d32_23 : decode jdk_52_method_16_code 23 = .ok (.invokestatic 119, 3) := by decide +kernel
theorem pd__28__5b_CII_29__5b_B : parseMethodDescriptor "([CII)[B" = some ⟨[(.array .char), .int, .int], some (.array .byte)⟩ := by decide +kernel
theorem d32_26 : decode jdk_52_method_16_code 26 = .ok (.astore 5, 2) := by decide +kernel
theorem d32_28 : decode jdk_52_method_16_code 28 = .ok (.aload 5, 2) := by decide +kernel
theorem d32_30 : decode jdk_52_method_16_code 30 = .ok (.iload 4, 2) := by decide +kernel
theorem d32_32 : decode jdk_52_method_16_code 32 = .ok (.invokestatic 71, 3) := by decide +kernel
theorem pd__28__5b_BI_29_C : parseMethodDescriptor "([BI)C" = some ⟨[(.array .byte), .int], some .char⟩ := by decide +kernel
theorem d32_35 : decode jdk_52_method_16_code 35 = .ok (.sipush 255, 3) := by decide +kernel
theorem d32_38 : decode jdk_52_method_16_code 38 = .ok (.if_icmp .gt 16, 3) := by decide +kernel
theorem d32_54 : decode jdk_52_method_16_code 54 = .ok (.aload 5, 2) := by decide +kernel
theorem d32_56 : decode jdk_52_method_16_code 56 = .ok (.areturn, 1) := by decide +kernel
set_option maxRecDepth 65536 in
set_option maxHeartbeats 40000000 in
theorem rmc3U (l : Launch) (Z : State) (a0 : Array Value) (hw : ∀ d ∈ tables_1, d.before a0 Z = true) (ws : List Jvm.Cond) (a1 : Addr) (k : ClassId) (N : Nat) (cs : Nat → Int32) (i0 : Nat) (h0 : Heap) (n0 : Nat) (Z0 : n0 ≤ h0.size) (V_a1 : Arv Z h0 a1 k .char (Int32.ofNat (N)) (List.map Value.int (own_R cs N)) (.int (0 : Int32))) (hN : N ≤ 64) (O0 : own_Old Z n0 h0) (hST : own_ST Z) (hi0 : i0 < N) (hbig : (255 : Int32) < cs i0) (hlt : ∀ j, j < i0 → ¬ (255 : Int32) < cs j) (hch : ∀ i, own_ch (cs i)) : own_Met l own_y32 jdk_52_method_16_code 6 (some (.array .byte)) ws ⟨3, 2, 192, 40⟩ #[(.ref a1), (.int (0 : Int32)), (.int (Int32.ofNat (N)))] Z h0 (Qc3U Z a1 k N cs i0 h0 n0) := by
  refine own_met (plainFor_of_name pn_java_lang_StringUTF16) (fun p e s m below meth c s₁ hx hby hml hrt hlk hZ hown hnm X0 e0 es0 => ?_)
  have N0 := Fr.nil n0
  rw [ef_RII_6 m a1 (0 : Int32) (Int32.ofNat (N))]
  have Kz := Keep.refl h0 []
  refine own_gk (XS.iloadN X0.here hx rfl (hb hby d32_0) rfl) ?_
  obtain ⟨T42, h42, k42, X42, e42, E42, A42, st42⟩ := newP X0 hx hZ (own_h hw 19 rfl) e0 (g := (mkF m 1 #[rv a1, iv (0 : Int32), iv (Int32.ofNat (N)), .unset, .unset, .unset] [(.int (Int32.ofNat (N)))])) rfl (hb hby d32_1) (n := (Int32.ofNat (N))) rfl (own_nn (a := N) (by omega)) (cap := 64) (Nat.le_trans (Nat.le_of_eq (own_tn (a := N) (by omega))) (by omega)) (by decide) (by decide) (by decide)
  obtain ⟨b42, g42⟩ : ∃ z, z = h0.size := ⟨_, rfl⟩
  rw [← g42] at A42 st42
  refine own_by st42 ?_
  have ne_a1_b42 : a1 ≠ b42 := Nat.ne_of_lt (Nat.lt_of_lt_of_eq V_a1.lt g42.symm)
  have Od42 := O0.ext E42
  have V_a1_42 := V_a1.ext E42
  have g_b42 : n0 ≤ b42 := Nat.le_trans Z0 (Nat.le_of_eq g42.symm)
  have sz_b42 : h0.size ≤ b42 := Nat.le_trans Kz.1 (Nat.le_of_eq g42.symm)
  have K42 := Kz.ext E42
  have Z42 : n0 ≤ h42.size := Nat.le_trans Z0 E42.1
  have V_b42 : Arv Z h42 b42 k42 .byte (Int32.ofNat (N)) (List.map Value.int (own_R ((fun _ => (0 : Int32))) N)) (.int (0 : Int32)) := (Arv.new A42 (own_nn (a := N) (by omega))).pad (own_pad0 _)
  refine own_gk (XS.astoreN X42.here hx rfl (hb hby d32_3) rfl rfl rfl) ?_
  refine own_gk (XS.aloadN X42.here hx rfl (hb hby d32_4) rfl rfl) ?_
  refine own_gk (XS.iloadN X42.here hx rfl (hb hby d32_5) rfl) ?_
  show own_Fin _ _ _ _ (T42.setTop (mkF m 6 #[rv a1, iv (0 : Int32), iv (Int32.ofNat (N)), rv b42, .unset, .unset] [(.int (0 : Int32)), (.ref a1)]))
  refine own_gk (XS.aloadN X42.here hx rfl (hb hby d32_6) rfl rfl) ?_
  refine own_gk (XS.iconst X42.here hx rfl (hb hby d32_7)) ?_
  refine own_gk (XS.iloadN X42.here hx rfl (hb hby d32_8) rfl) ?_
  obtain ⟨_, T43, Lc43, X43, hQ43, st43⟩ := own_callS X42 hx hZ hown (own_h hw 172 rfl) (own_h hw 173 rfl) (own_h hw 170 rfl) (own_h hw 174 rfl) (by decide) (rmcmU l Z a0 hw [] a1 k b42 k42 N cs i0 h42 n0 Z42 V_a1_42 V_b42 g_b42 ne_a1_b42 hN hi0 hbig hlt) (W := 0) (by decide) (by decide) (g := (mkF m 9 #[rv a1, iv (0 : Int32), iv (Int32.ofNat (N)), rv b42, .unset, .unset] [(.int (Int32.ofNat (N))), (.int (0 : Int32)), (.ref b42), (.int (0 : Int32)), (.ref a1)])) rfl (by rw [hml]; rfl) (argsL := [(.ref a1), (.int (0 : Int32)), (.ref b42), (.int (0 : Int32)), (.int (Int32.ofNat (N)))]) (rest := []) (lenOf pd__28__5b_CI_5b_BII_29_I rfl) rfl (Nat.le_of_eq rfl) (hb hby d32_9) rfl e42 (by decide) (by decide)
  refine own_go st43 ?_
  obtain ⟨rfl, Nq43, K43⟩ := hQ43
  have Od43 := Od42.keep K43 (allS g_b42 all0)
  have V_a1_43 := V_a1_42.keep K43 (ninS ne_a1_b42 nin0)
  have Z43 : n0 ≤ T43.heap.size := Nat.le_trans Z42 K43.1
  have Kt43 := K42.trans K43 (allS (P := fun x => x ∈ _ ∨ _ ≤ x) (Or.inr sz_b42) all0)
  have N43 := Fr.app N0 Nq43
  refine own_gk (XS.istore X43.here hx rfl (hb hby d32_12) rfl rfl) ?_
  show own_Fin _ _ _ _ (T43.setTop (mkF m 14 #[rv a1, iv (0 : Int32), iv (Int32.ofNat (N)), rv b42, iv (Int32.ofNat (i0)), .unset] []))
  refine own_gk (XS.iload X43.here hx rfl (hb hby d32_14) rfl) ?_
  refine own_gk (XS.iloadN X43.here hx rfl (hb hby d32_16) rfl) ?_
  refine own_gk (XS.icmpNo X43.here hx rfl (hb hby d32_17) rfl (feq (show ¬ ((Int32.ofNat (i0)) = (Int32.ofNat (N))) from (fun q => absurd ((own_eqN (a := i0) (b := N) (by omega) (by omega)).mp q) (by omega)))).1) ?_
  refine own_gk (XS.aloadN X43.here hx rfl (hb hby d32_20) rfl rfl) ?_
  refine own_gk (XS.iloadN X43.here hx rfl (hb hby d32_21) rfl) ?_
  show own_Fin _ _ _ _ (T43.setTop (mkF m 22 #[rv a1, iv (0 : Int32), iv (Int32.ofNat (N)), rv b42, iv (Int32.ofNat (i0)), .unset] [(.int (0 : Int32)), (.ref a1)]))
  refine own_gk (XS.iloadN X43.here hx rfl (hb hby d32_22) rfl) ?_
  obtain ⟨_, T44, Lc44, X44, hQ44, st44⟩ := own_callS X43 hx hZ hown (own_h hw 216 rfl) (own_h hw 217 rfl) (own_h hw 170 rfl) (own_h hw 218 rfl) (by decide) (rmtb l Z a0 hw [] a1 k N cs T43.heap n0 Z43 V_a1_43 hN Od43 hST) (W := 0) (by decide) (by decide) (g := (mkF m 23 #[rv a1, iv (0 : Int32), iv (Int32.ofNat (N)), rv b42, iv (Int32.ofNat (i0)), .unset] [(.int (Int32.ofNat (N))), (.int (0 : Int32)), (.ref a1)])) rfl (by rw [hml]; rfl) (argsL := [(.ref a1), (.int (0 : Int32)), (.int (Int32.ofNat (N)))]) (rest := []) (lenOf pd__28__5b_CII_29__5b_B rfl) rfl (Nat.le_of_eq rfl) (hb hby d32_23) rfl rfl (by decide) (by decide)
  refine own_go st44 ?_
  obtain ⟨b_44, kb_44, rfl, Nq44, K44, g_b_44, sb_b_44, r44_0⟩ := hQ44
  have ne_a1_b_44 : a1 ≠ b_44 := Nat.ne_of_lt (Nat.lt_of_lt_of_le V_a1_43.lt sb_b_44)
  have sz_b_44 : h0.size ≤ b_44 := Nat.le_trans Kt43.1 sb_b_44
  have Od44 := Od43.keep K44 all0
  have V_a1_44 := V_a1_43.keep K44 nin0
  have Z44 : n0 ≤ T44.heap.size := Nat.le_trans Z43 K44.1
  have Kt44 := Kt43.trans K44 all0
  have N44 := Fr.app N43 Nq44
  refine own_gk (XS.astore X44.here hx rfl (hb hby d32_26) rfl rfl rfl) ?_
  refine own_gk (XS.aload X44.here hx rfl (hb hby d32_28) rfl rfl) ?_
  refine own_gk (XS.iload X44.here hx rfl (hb hby d32_30) rfl) ?_
  show own_Fin _ _ _ _ (T44.setTop (mkF m 32 #[rv a1, iv (0 : Int32), iv (Int32.ofNat (N)), rv b42, iv (Int32.ofNat (i0)), rv b_44] [(.int (Int32.ofNat (i0))), (.ref b_44)]))
  obtain ⟨_, T45, Lc45, X45, hQ45, st45⟩ := own_callS X44 hx hZ hown (own_h hw 232 rfl) (own_h hw 233 rfl) (own_h hw 170 rfl) (own_h hw 234 rfl) (by decide) (rmgc l Z a0 hw [] b_44 kb_44 (2 * N) (own_u cs) i0 (cs i0) T44.heap n0 Z44 r44_0 Od44 hST (by omega) (by omega) (own_u0 _ _) (own_u1 _ _) (hch _)) (W := 0) (by decide) (by decide) (g := (mkF m 32 #[rv a1, iv (0 : Int32), iv (Int32.ofNat (N)), rv b42, iv (Int32.ofNat (i0)), rv b_44] [(.int (Int32.ofNat (i0))), (.ref b_44)])) rfl (by rw [hml]; rfl) (argsL := [(.ref b_44), (.int (Int32.ofNat (i0)))]) (rest := []) (lenOf pd__28__5b_BI_29_C rfl) rfl (Nat.le_of_eq rfl) (hb hby d32_32) rfl rfl (by decide) (by decide)
  obtain ⟨rfl, Nq45, e45⟩ := hQ45
  refine own_go st45 ?_
  have N45 := Fr.app N44 Nq45
  refine own_gk (XS.sipush X45.here hx rfl (hb hby d32_35)) ?_
  refine own_gk (XS.icmpYes X45.here hx rfl (pc0 := 38) (pc' := 54) rfl (hb hby d32_38) rfl (tlt (show (255 : Int32) < (cs i0) from hbig)).2.2.1 (by decide) (by decide)) ?_
  refine own_gk (XS.aload X45.here hx rfl (hb hby d32_54) rfl rfl) ?_
  obtain ⟨fs46, hr46, hrun46, hended46, hW46, hsame46⟩ := X45.leave (v := some (.ref b_44)) (fun h => by rw [hrt] at h; cases h)
  refine own_done (retOut X45 hx hrt rfl (Or.inr (Or.inr (Or.inr (Or.inr ⟨rfl, rfl, rfl⟩)))) (hb hby d32_56) hr46) hrun46 hended46 ⟨_, _, rfl, ?_, ⟨_, rfl⟩, hW46, hsame46.mono (by decide) (by decide)⟩
  show Qc3U Z a1 k N cs i0 h0 n0 _ T45.heap _
  rw [e45]
  exact ⟨b_44, kb_44, rfl, N45, Kt44, g_b_44, sz_b_44, r44_0⟩
def QcfL (Z : State) (a1 : Addr) (k : ClassId) (N : Nat) (f : Nat → Int32) (h0 : Heap) (n0 : Nat) (v : Option Value) (h : Heap) (L : List Loc) : Prop := v = some (.int (0 : Int32)) ∧ Fr n0 L ∧ h = h0
theorem d34_0 : decode jdk_52_method_15_code 0 = .ok (.iload_n 1, 1) := by decide +kernel
theorem d34_1 : decode jdk_52_method_15_code 1 = .ok (.aload_n 0, 1) := by decide +kernel
theorem d34_2 : decode jdk_52_method_15_code 2 = .ok (.arraylength, 1) := by decide +kernel
theorem d34_3 : decode jdk_52_method_15_code 3 = .ok (.isub, 1) := by decide +kernel
theorem d34_4 : decode jdk_52_method_15_code 4 = .ok (.bipush 31, 2) := by decide +kernel
theorem d34_6 : decode jdk_52_method_15_code 6 = .ok (.iushr, 1) := by decide +kernel
theorem d34_7 : decode jdk_52_method_15_code 7 = .ok (.i2b, 1) := by decide +kernel
theorem d34_8 : decode jdk_52_method_15_code 8 = .ok (.ireturn, 1) := by decide +kernel
set_option maxRecDepth 65536 in
set_option maxHeartbeats 40000000 in
theorem rmcfL (l : Launch) (Z : State) (a0 : Array Value) (hw : ∀ d ∈ tables_1, d.before a0 Z = true) (ws : List Jvm.Cond) (a1 : Addr) (k : ClassId) (N : Nat) (f : Nat → Int32) (h0 : Heap) (n0 : Nat) (Z0 : n0 ≤ h0.size) (V_a1 : Arv Z h0 a1 k .byte (Int32.ofNat (N)) (List.map Value.int (own_R f N)) (.int (0 : Int32))) (hN : N ≤ 64) : own_Met l own_y34 jdk_52_method_15_code 2 (some .byte) ws ⟨0, 0, 0, 0⟩ #[(.ref a1), (.int (Int32.ofNat (N)))] Z h0 (QcfL Z a1 k N f h0 n0) := by
  refine own_met (plainFor_of_name pn_java_lang_StringUTF16) (fun p e s m below meth c s₁ hx hby hml hrt hlk hZ hown hnm X0 e0 es0 => ?_)
  have N0 := Fr.nil n0
  rw [ef_RI_2 m a1 (Int32.ofNat (N))]
  refine own_gk (XS.iloadN X0.here hx rfl (hb hby d34_0) rfl) ?_
  refine own_gk (XS.aloadN X0.here hx rfl (hb hby d34_1) rfl rfl) ?_
  obtain ⟨cl47, Ar47, qa47, Sa47, Na47, Ha47, Ga47⟩ := id V_a1
  refine own_by (X0.arraylength hx (by rw [e0]; exact Ar47.1) (State.isArrayOf_alike hZ.alike Ar47.2.1) (g := (mkF m 2 #[rv a1, iv (Int32.ofNat (N))] [(.ref a1), (.int (Int32.ofNat (N)))])) rfl rfl (hb hby d34_2)) ?_
  rw [len_of Sa47 Na47]
  refine own_gk (XS.isub X0.here hx rfl (hb hby d34_3) rfl) ?_
  show own_Fin _ _ _ _ (s₁.setTop (mkF m 4 #[rv a1, iv (Int32.ofNat (N))] [(.int ((Int32.ofNat (N)) - (Int32.ofNat (N))))]))
  rw [show ((Int32.ofNat (N)) - (Int32.ofNat (N))) = Int32.ofNat (0) from ((own_subN (a := N) (b := N) (by omega)).trans (congrArg Int32.ofNat (by omega)))]
  refine own_gk (XS.bipush X0.here hx rfl (hb hby d34_4)) ?_
  refine own_gk (XS.iushr X0.here hx rfl (hb hby d34_6) rfl) ?_
  refine own_gk (XS.i2b X0.here hx rfl (hb hby d34_7) rfl) ?_
  obtain ⟨fs48, hr48, hrun48, hended48, hW48, hsame48⟩ := X0.leave (v := some (.int (nar .byte ((0 : Int32).toInt8.toInt32)))) (fun h => by rw [hrt] at h; cases h)
  refine own_done (retN X0 hx (t := .byte) hrt (by simp) (hb hby d34_8) hr48) hrun48 hended48 ⟨_, _, rfl, ?_, ⟨_, rfl⟩, hW48, hsame48.mono (by decide) (by decide)⟩
  show QcfL Z a1 k N f h0 n0 _ s₁.heap _
  rw [e0]
  exact ⟨(by decide), N0, rfl⟩
def QcfU (Z : State) (a1 : Addr) (k : ClassId) (N : Nat) (f : Nat → Int32) (h0 : Heap) (n0 : Nat) (v : Option Value) (h : Heap) (L : List Loc) : Prop := v = some (.int (1 : Int32)) ∧ Fr n0 L ∧ h = h0
set_option maxRecDepth 65536 in
set_option maxHeartbeats 40000000 in
theorem rmcfU (l : Launch) (Z : State) (a0 : Array Value) (hw : ∀ d ∈ tables_1, d.before a0 Z = true) (ws : List Jvm.Cond) (a1 : Addr) (k : ClassId) (N : Nat) (f : Nat → Int32) (h0 : Heap) (n0 : Nat) (Z0 : n0 ≤ h0.size) (V_a1 : Arv Z h0 a1 k .byte (Int32.ofNat (2 * N)) (List.map Value.int (own_R f (2 * N))) (.int (0 : Int32))) (hN : N ≤ 64) (hN1 : 1 ≤ N) : own_Met l own_y34 jdk_52_method_15_code 2 (some .byte) ws ⟨0, 0, 0, 0⟩ #[(.ref a1), (.int (Int32.ofNat (N)))] Z h0 (QcfU Z a1 k N f h0 n0) := by
  refine own_met (plainFor_of_name pn_java_lang_StringUTF16) (fun p e s m below meth c s₁ hx hby hml hrt hlk hZ hown hnm X0 e0 es0 => ?_)
  have N0 := Fr.nil n0
  rw [ef_RI_2 m a1 (Int32.ofNat (N))]
  refine own_gk (XS.iloadN X0.here hx rfl (hb hby d34_0) rfl) ?_
  refine own_gk (XS.aloadN X0.here hx rfl (hb hby d34_1) rfl rfl) ?_
  obtain ⟨cl49, Ar49, qa49, Sa49, Na49, Ha49, Ga49⟩ := id V_a1
  refine own_by (X0.arraylength hx (by rw [e0]; exact Ar49.1) (State.isArrayOf_alike hZ.alike Ar49.2.1) (g := (mkF m 2 #[rv a1, iv (Int32.ofNat (N))] [(.ref a1), (.int (Int32.ofNat (N)))])) rfl rfl (hb hby d34_2)) ?_
  rw [len_of Sa49 Na49]
  refine own_gk (XS.isub X0.here hx rfl (hb hby d34_3) rfl) ?_
  refine own_gk (XS.bipush X0.here hx rfl (hb hby d34_4)) ?_
  show own_Fin _ _ _ _ (s₁.setTop (mkF m 6 #[rv a1, iv (Int32.ofNat (N))] [(.int (31 : Int32)), (.int ((Int32.ofNat (N)) - (Int32.ofNat (2 * N))))]))
  refine own_gk (XS.iushr X0.here hx rfl (hb hby d34_6) rfl) ?_
  refine own_gk (XS.i2b X0.here hx rfl (hb hby d34_7) rfl) ?_
  obtain ⟨fs50, hr50, hrun50, hended50, hW50, hsame50⟩ := X0.leave (v := some (.int (nar .byte (((((Int32.ofNat (N)) - (Int32.ofNat (2 * N))).toUInt32 >>> ((31 : Int32) &&& 31).toUInt32).toInt32).toInt8.toInt32)))) (fun h => by rw [hrt] at h; cases h)
  refine own_done (retN X0 hx (t := .byte) hrt (by simp) (hb hby d34_8) hr50) hrun50 hended50 ⟨_, _, rfl, ?_, ⟨_, rfl⟩, hW50, hsame50.mono (by decide) (by decide)⟩
  show QcfU Z a1 k N f h0 n0 _ s₁.heap _
  rw [e0]
  exact ⟨(congrArg (fun z => some (Value.int z)) (own_cfU hN1 hN)), N0, rfl⟩
theorem pn_java_lang_String : plainName "java/lang/String" = true := by first | (simp [plainName, overriddenIn]; done) | decide +kernel
theorem ef_RRII0_6 (m : MethodId) (x0 : Addr) (x1 : Addr) (x2 : Int32) (x3 : Int32) : entryFrame m #[(.ref x0), (.ref x1), (.int x2), (.int x3), .null] 6 = mkF m 0 #[.val (.ref x0), .val (.ref x1), .val (.int x2), .val (.int x3), .val .null, .unset] [] := by first | (simp [entryFrame, mkF, argsToLocals, Value.category]; done) | rfl
def Qi4L (Z : State) (a1 : Addr) (a2 : Addr) (k : ClassId) (N : Nat) (cs : Nat → Int32) (h0 : Heap) (n0 : Nat) (v : Option Value) (h : Heap) (L : List Loc) : Prop := ∃ (b : Addr) (kb : ClassId), v = none ∧ Fr n0 L ∧ Keep h0 h [a1] ∧ n0 ≤ b ∧ h0.size ≤ b ∧ Exa Z h a1 "java/lang/String" ∧ Fld Z h a1 "java/lang/String" "value" "[B" (.ref b) ∧ Fld Z h a1 "java/lang/String" "coder" "B" (.int (0 : Int32)) ∧ Arv Z h b kb .byte (Int32.ofNat (N)) (List.map Value.int (own_R (own_lo cs) N)) (.int (0 : Int32))
theorem d3_0 : decode jdk_42_method_149_code 0 = .ok (.aload_n 0, 1) := by decide +kernel
theorem d3_1 : decode jdk_42_method_149_code 1 = .ok (.invokespecial 1, 3) := by decide +kernel
theorem d3_4 : decode jdk_42_method_149_code 4 = .ok (.iload_n 3, 1) := by decide +kernel
theorem d3_5 : decode jdk_42_method_149_code 5 = .ok (.ifCond .ne 22, 3) := by decide +kernel
theorem d3_27 : decode jdk_42_method_149_code 27 = .ok (.getstatic 38, 3) := by decide +kernel
theorem d3_30 : decode jdk_42_method_149_code 30 = .ok (.ifCond .eq 28, 3) := by decide +kernel
theorem d3_33 : decode jdk_42_method_149_code 33 = .ok (.aload_n 1, 1) := by decide +kernel
theorem d3_34 : decode jdk_42_method_149_code 34 = .ok (.iload_n 2, 1) := by decide +kernel
theorem d3_35 : decode jdk_42_method_149_code 35 = .ok (.iload_n 3, 1) := by decide +kernel
theorem d3_36 : decode jdk_42_method_149_code 36 = .ok (.invokestatic 177, 3) := by decide +kernel
theorem d3_39 : decode jdk_42_method_149_code 39 = .ok (.astore 5, 2) := by decide +kernel
theorem d3_41 : decode jdk_42_method_149_code 41 = .ok (.aload_n 0, 1) := by decide +kernel
theorem d3_42 : decode jdk_42_method_149_code 42 = .ok (.aload 5, 2) := by decide +kernel
theorem d3_44 : decode jdk_42_method_149_code 44 = .ok (.iload_n 3, 1) := by decide +kernel
theorem d3_45 : decode jdk_42_method_149_code 45 = .ok (.invokestatic 47, 3) := by decide +kernel
theorem pd__28__5b_BI_29_B : parseMethodDescriptor "([BI)B" = some ⟨[(.array .byte), .int], some .byte⟩ := by decide +kernel
theorem d3_48 : decode jdk_42_method_149_code 48 = .ok (.putfield 15, 3) := by decide +kernel
theorem d3_51 : decode jdk_42_method_149_code 51 = .ok (.aload_n 0, 1) := by decide +kernel
theorem d3_52 : decode jdk_42_method_149_code 52 = .ok (.aload 5, 2) := by decide +kernel
theorem d3_54 : decode jdk_42_method_149_code 54 = .ok (.putfield 9, 3) := by decide +kernel
theorem d3_57 : decode jdk_42_method_149_code 57 = .ok (.return_, 1) := by decide +kernel
set_option maxRecDepth 65536 in
set_option maxHeartbeats 40000000 in
theorem rmi4L (l : Launch) (Z : State) (a0 : Array Value) (hw : ∀ d ∈ tables_1, d.before a0 Z = true) (ws : List Jvm.Cond) (a1 : Addr) (a2 : Addr) (k : ClassId) (N : Nat) (cs : Nat → Int32) (h0 : Heap) (n0 : Nat) (Z0 : n0 ≤ h0.size) (E_a1 : Exa Z h0 a1 "java/lang/String") (F_value_a1 : Fld Z h0 a1 "java/lang/String" "value" "[B" .null) (F_coder_a1 : Fld Z h0 a1 "java/lang/String" "coder" "B" (.int (0 : Int32))) (g_a1 : n0 ≤ a1) (O0 : own_Old Z n0 h0) (hST : own_ST Z) (V_a2 : Arv Z h0 a2 k .char (Int32.ofNat (N)) (List.map Value.int (own_R cs N)) (.int (0 : Int32))) (hN : N ≤ 64) (hN1 : 1 ≤ N) (hal : ∀ i, i < N → ¬ (255 : Int32) < cs i) : own_Met l own_y3 jdk_42_method_149_code 6 none ws ⟨2, 1, 64, 35⟩ #[(.ref a1), (.ref a2), (.int (0 : Int32)), (.int (Int32.ofNat (N))), .null] Z h0 (Qi4L Z a1 a2 k N cs h0 n0) := by
  refine own_met (plainFor_of_name pn_java_lang_String) (fun p e s m below meth c s₁ hx hby hml hrt hlk hZ hown hnm X0 e0 es0 => ?_)
  have N0 := Fr.nil n0
  rw [ef_RRII0_6 m a1 a2 (0 : Int32) (Int32.ofNat (N))]
  have Kz := Keep.refl h0 [a1]
  obtain ⟨ct, sv, hct, hsv, S__assertionsDisabled, S_HI_BYTE_SHIFT, S_LO_BYTE_SHIFT, S_COMPACT_STRINGS, S_SIOOBE_FORMATTER⟩ := id hST
  refine own_gk (XS.aloadN X0.here hx rfl (hb hby d3_0) rfl rfl) ?_
  obtain ⟨T51, X51, e51, st51⟩ := initO X0 hx hZ hown (own_h hw 15 rfl) (own_h hw 16 rfl) (own_h hw 17 rfl) e0 (g := (mkF m 1 #[rv a1, rv a2, iv (0 : Int32), iv (Int32.ofNat (N)), .val .null, .unset] [(.ref a1)])) rfl (by rw [hml]; rfl) rfl (hb hby d3_1) (by decide) (W := 0) (by show 2 * 0 + _ ≤ _; exact Nat.le_of_eq rfl) (by decide)
  refine own_by st51 ?_
  refine own_gk (XS.iloadN X51.here hx rfl (hb hby d3_4) rfl) ?_
  refine own_gk (XS.ifYes X51.here hx rfl (pc0 := 5) (pc' := 27) rfl (hb hby d3_5) rfl ((if0 _ _).trans (feq (show ¬ ((Int32.ofNat (N)) = (0 : Int32)) from (fun q => absurd ((own_eqN (a := N) (b := 0) (by omega) (by omega)).mp q) (by omega)))).2) (by decide) (by decide)) ?_
  obtain ⟨T52, X52, e52, st52⟩ := getS2 X51 hx hZ hown (host := "") (Or.inl (own_h hw 40 rfl)) Via.refl e51 (S_COMPACT_STRINGS.ext O0.2) (g := (mkF m 27 #[rv a1, rv a2, iv (0 : Int32), iv (Int32.ofNat (N)), .val .null, .unset] [])) rfl (hb hby d3_27)
  refine own_by st52 ?_
  show own_Fin _ _ _ _ (T52.setTop (mkF m 30 #[rv a1, rv a2, iv (0 : Int32), iv (Int32.ofNat (N)), .val .null, .unset] [(.int ct)]))
  refine own_gk (XS.ifNo X52.here hx rfl (hb hby d3_30) rfl ((if0 _ _).trans (feq (show ¬ (ct = (0 : Int32)) from hct)).1)) ?_
  refine own_gk (XS.aloadN X52.here hx rfl (hb hby d3_33) rfl rfl) ?_
  refine own_gk (XS.iloadN X52.here hx rfl (hb hby d3_34) rfl) ?_
  refine own_gk (XS.iloadN X52.here hx rfl (hb hby d3_35) rfl) ?_
  obtain ⟨_, T53, Lc53, X53, hQ53, st53⟩ := own_callS X52 hx hZ hown (own_h hw 168 rfl) (own_h hw 169 rfl) (own_h hw 170 rfl) (own_h hw 171 rfl) (by decide) (rmc3L l Z a0 hw [] a2 k N cs h0 n0 Z0 V_a2 hN O0 hST hal) (W := 0) (by decide) (by decide) (g := (mkF m 36 #[rv a1, rv a2, iv (0 : Int32), iv (Int32.ofNat (N)), .val .null, .unset] [(.int (Int32.ofNat (N))), (.int (0 : Int32)), (.ref a2)])) rfl (by rw [hml]; rfl) (argsL := [(.ref a2), (.int (0 : Int32)), (.int (Int32.ofNat (N)))]) (rest := []) (lenOf pd__28__5b_CII_29__5b_B rfl) rfl (Nat.le_of_eq rfl) (hb hby d3_36) rfl e52 (by decide) (by decide)
  refine own_go st53 ?_
  obtain ⟨b_53, kb_53, rfl, Nq53, K53, g_b_53, sb_b_53, r53_0⟩ := hQ53
  have ne_a1_b_53 : a1 ≠ b_53 := Nat.ne_of_lt (Nat.lt_of_lt_of_le E_a1.lt sb_b_53)
  have ne_a2_b_53 : a2 ≠ b_53 := Nat.ne_of_lt (Nat.lt_of_lt_of_le V_a2.lt sb_b_53)
  have sz_b_53 : h0.size ≤ b_53 := Nat.le_trans Kz.1 sb_b_53
  have Od53 := O0.keep K53 all0
  have E_a1_53 := E_a1.keep K53
  have F_value_a1_53 := F_value_a1.keep K53 nin0
  have F_coder_a1_53 := F_coder_a1.keep K53 nin0
  have V_a2_53 := V_a2.keep K53 nin0
  have Z53 : n0 ≤ T53.heap.size := Nat.le_trans Z0 K53.1
  have Kt53 := Kz.trans K53 all0
  have N53 := Fr.app N0 Nq53
  show own_Fin _ _ _ _ (T53.setTop (mkF m 39 #[rv a1, rv a2, iv (0 : Int32), iv (Int32.ofNat (N)), .val .null, .unset] [(.ref b_53)]))
  refine own_gk (XS.astore X53.here hx rfl (hb hby d3_39) rfl rfl rfl) ?_
  refine own_gk (XS.aloadN X53.here hx rfl (hb hby d3_41) rfl rfl) ?_
  refine own_gk (XS.aload X53.here hx rfl (hb hby d3_42) rfl rfl) ?_
  refine own_gk (XS.iloadN X53.here hx rfl (hb hby d3_44) rfl) ?_
  obtain ⟨_, T54, Lc54, X54, hQ54, st54⟩ := own_callS X53 hx hZ hown (own_h hw 175 rfl) (own_h hw 176 rfl) (own_h hw 170 rfl) (own_h hw 177 rfl) (by decide) (rmcfL l Z a0 hw [] b_53 kb_53 N (own_lo cs) T53.heap n0 Z53 r53_0 hN) (W := 1) (by decide) (by decide) (g := (mkF m 45 #[rv a1, rv a2, iv (0 : Int32), iv (Int32.ofNat (N)), .val .null, rv b_53] [(.int (Int32.ofNat (N))), (.ref b_53), (.ref a1)])) rfl (by rw [hml]; rfl) (argsL := [(.ref b_53), (.int (Int32.ofNat (N)))]) (rest := [(.ref a1)]) (lenOf pd__28__5b_BI_29_B rfl) rfl (Nat.le_of_eq rfl) (hb hby d3_45) rfl rfl (by decide) (by decide)
  obtain ⟨rfl, Nq54, e54⟩ := hQ54
  refine own_go st54 ?_
  have N54 := Fr.app N53 Nq54
  show own_Fin _ _ _ _ (T54.setTop (mkF m 48 #[rv a1, rv a2, iv (0 : Int32), iv (Int32.ofNat (N)), .val .null, rv b_53] [(.int (0 : Int32)), (.ref a1)]))
  obtain ⟨T55, h55, X55, e55, W55, st55⟩ := putFN X54 hx hZ hown (own_h hw 25 rfl) Via.refl e54 F_coder_a1_53 E_a1_53 (Or.inr ⟨(own_h hw 21 rfl), rfl, hnm⟩) (own_h hw 6 rfl) (ty := .byte) (v' := (.int (nar .byte (0 : Int32)))) (by decide) rfl (fits_nar_byte _) (g := (mkF m 48 #[rv a1, rv a2, iv (0 : Int32), iv (Int32.ofNat (N)), .val .null, rv b_53] [(.int (0 : Int32)), (.ref a1)])) rfl rfl (hb hby d3_48)
  refine own_by st55 ?_
  have F_coder_a1_55 := F_coder_a1_53.same W55
  have Od55 := Od53.wr W55 g_a1
  have E_a1_55 := E_a1_53.wr W55
  have F_value_a1_55 := F_value_a1_53.other W55 (Or.inr (slot_ne (Or.inr (own_h hw 20 rfl)) (Or.inr (own_h hw 21 rfl)) (by decide) (t := (.array .byte)) (t' := .byte) (by decide) (by decide)))
  have V_a2_55 := V_a2_53.other W55 (Ne.symm (Exa.neArv E_a1_53 V_a2_53 (own_h hw 6 rfl)))
  have r53_0_55 := r53_0.other W55 (Ne.symm ne_a1_b_53)
  have N55 := Fr.snoc X55 N54 g_a1
  have Z55 : n0 ≤ h55.size := Nat.le_trans Z53 (Keep.of_wr W55).1
  have K55 := Kt53.wr W55 (Or.inl (List.mem_of_getElem? (i := 0) rfl))
  refine own_gk (XS.aloadN X55.here hx rfl (hb hby d3_51) rfl rfl) ?_
  refine own_gk (XS.aload X55.here hx rfl (hb hby d3_52) rfl rfl) ?_
  obtain ⟨T56, h56, X56, e56, W56, st56⟩ := putF X55 hx hZ hown (host := "") (Or.inl (own_h hw 24 rfl)) Via.refl e55 F_value_a1_55 E_a1_55 (Or.inr ⟨(own_h hw 20 rfl), rfl, hnm⟩) (own_h hw 6 rfl) (ty := (.array .byte)) (by decide) rfl rfl (g := (mkF m 54 #[rv a1, rv a2, iv (0 : Int32), iv (Int32.ofNat (N)), .val .null, rv b_53] [(.ref b_53), (.ref a1)])) rfl rfl (hb hby d3_54)
  refine own_by st56 ?_
  have F_value_a1_56 := F_value_a1_55.same W56
  have Od56 := Od55.wr W56 g_a1
  have E_a1_56 := E_a1_55.wr W56
  have F_coder_a1_56 := F_coder_a1_55.other W56 (Or.inr (slot_ne (Or.inr (own_h hw 21 rfl)) (Or.inr (own_h hw 20 rfl)) (by decide) (t := .byte) (t' := (.array .byte)) (by decide) (by decide)))
  have V_a2_56 := V_a2_55.other W56 (Ne.symm (Exa.neArv E_a1_55 V_a2_55 (own_h hw 6 rfl)))
  have r53_0_56 := r53_0_55.other W56 (Ne.symm ne_a1_b_53)
  have N56 := Fr.snoc X56 N55 g_a1
  have Z56 : n0 ≤ h56.size := Nat.le_trans Z55 (Keep.of_wr W56).1
  have K56 := K55.wr W56 (Or.inl (List.mem_of_getElem? (i := 0) rfl))
  obtain ⟨fs57, hr57, hrun57, hended57, hW57, hsame57⟩ := X56.leave (v := none) (fun _ => rfl)
  refine own_done (X56.returnOut hx hrt (hb hby d3_57) hr57) hrun57 hended57 ⟨_, _, rfl, ?_, ⟨_, rfl⟩, hW57, hsame57.mono (by decide) (by decide)⟩
  show Qi4L Z a1 a2 k N cs h0 n0 _ T56.heap _
  rw [e56]
  exact ⟨b_53, kb_53, rfl, N56, K56, g_b_53, sz_b_53, E_a1_56, F_value_a1_56, F_coder_a1_56, r53_0_56⟩
def Qi4U (Z : State) (a1 : Addr) (a2 : Addr) (k : ClassId) (N : Nat) (cs : Nat → Int32) (i0 : Nat) (h0 : Heap) (n0 : Nat) (v : Option Value) (h : Heap) (L : List Loc) : Prop := ∃ (b : Addr) (kb : ClassId), v = none ∧ Fr n0 L ∧ Keep h0 h [a1] ∧ n0 ≤ b ∧ h0.size ≤ b ∧ Exa Z h a1 "java/lang/String" ∧ Fld Z h a1 "java/lang/String" "value" "[B" (.ref b) ∧ Fld Z h a1 "java/lang/String" "coder" "B" (.int (1 : Int32)) ∧ Arv Z h b kb .byte (Int32.ofNat (2 * N)) (List.map Value.int (own_R (own_u cs) (2 * N))) (.int (0 : Int32))
set_option maxRecDepth 65536 in
set_option maxHeartbeats 40000000 in
theorem rmi4U (l : Launch) (Z : State) (a0 : Array Value) (hw : ∀ d ∈ tables_1, d.before a0 Z = true) (ws : List Jvm.Cond) (a1 : Addr) (a2 : Addr) (k : ClassId) (N : Nat) (cs : Nat → Int32) (i0 : Nat) (h0 : Heap) (n0 : Nat) (Z0 : n0 ≤ h0.size) (E_a1 : Exa Z h0 a1 "java/lang/String") (F_value_a1 : Fld Z h0 a1 "java/lang/String" "value" "[B" .null) (F_coder_a1 : Fld Z h0 a1 "java/lang/String" "coder" "B" (.int (0 : Int32))) (g_a1 : n0 ≤ a1) (O0 : own_Old Z n0 h0) (hST : own_ST Z) (V_a2 : Arv Z h0 a2 k .char (Int32.ofNat (N)) (List.map Value.int (own_R cs N)) (.int (0 : Int32))) (hN : N ≤ 64) (hN1 : 1 ≤ N) (hi0 : i0 < N) (hbig : (255 : Int32) < cs i0) (hlt : ∀ j, j < i0 → ¬ (255 : Int32) < cs j) (hch : ∀ i, own_ch (cs i)) : own_Met l own_y3 jdk_42_method_149_code 6 none ws ⟨4, 2, 192, 57⟩ #[(.ref a1), (.ref a2), (.int (0 : Int32)), (.int (Int32.ofNat (N))), .null] Z h0 (Qi4U Z a1 a2 k N cs i0 h0 n0) := by
  refine own_met (plainFor_of_name pn_java_lang_String) (fun p e s m below meth c s₁ hx hby hml hrt hlk hZ hown hnm X0 e0 es0 => ?_)
  have N0 := Fr.nil n0
  rw [ef_RRII0_6 m a1 a2 (0 : Int32) (Int32.ofNat (N))]
  have Kz := Keep.refl h0 [a1]
  obtain ⟨ct, sv, hct, hsv, S__assertionsDisabled, S_HI_BYTE_SHIFT, S_LO_BYTE_SHIFT, S_COMPACT_STRINGS, S_SIOOBE_FORMATTER⟩ := id hST
  refine own_gk (XS.aloadN X0.here hx rfl (hb hby d3_0) rfl rfl) ?_
  obtain ⟨T58, X58, e58, st58⟩ := initO X0 hx hZ hown (own_h hw 15 rfl) (own_h hw 16 rfl) (own_h hw 17 rfl) e0 (g := (mkF m 1 #[rv a1, rv a2, iv (0 : Int32), iv (Int32.ofNat (N)), .val .null, .unset] [(.ref a1)])) rfl (by rw [hml]; rfl) rfl (hb hby d3_1) (by decide) (W := 0) (by show 2 * 0 + _ ≤ _; exact Nat.le_of_eq rfl) (by decide)
  refine own_by st58 ?_
  refine own_gk (XS.iloadN X58.here hx rfl (hb hby d3_4) rfl) ?_
  refine own_gk (XS.ifYes X58.here hx rfl (pc0 := 5) (pc' := 27) rfl (hb hby d3_5) rfl ((if0 _ _).trans (feq (show ¬ ((Int32.ofNat (N)) = (0 : Int32)) from (fun q => absurd ((own_eqN (a := N) (b := 0) (by omega) (by omega)).mp q) (by omega)))).2) (by decide) (by decide)) ?_
  obtain ⟨T59, X59, e59, st59⟩ := getS2 X58 hx hZ hown (host := "") (Or.inl (own_h hw 40 rfl)) Via.refl e58 (S_COMPACT_STRINGS.ext O0.2) (g := (mkF m 27 #[rv a1, rv a2, iv (0 : Int32), iv (Int32.ofNat (N)), .val .null, .unset] [])) rfl (hb hby d3_27)
  refine own_by st59 ?_
  show own_Fin _ _ _ _ (T59.setTop (mkF m 30 #[rv a1, rv a2, iv (0 : Int32), iv (Int32.ofNat (N)), .val .null, .unset] [(.int ct)]))
  refine own_gk (XS.ifNo X59.here hx rfl (hb hby d3_30) rfl ((if0 _ _).trans (feq (show ¬ (ct = (0 : Int32)) from hct)).1)) ?_
  refine own_gk (XS.aloadN X59.here hx rfl (hb hby d3_33) rfl rfl) ?_
  refine own_gk (XS.iloadN X59.here hx rfl (hb hby d3_34) rfl) ?_
  refine own_gk (XS.iloadN X59.here hx rfl (hb hby d3_35) rfl) ?_
  obtain ⟨_, T60, Lc60, X60, hQ60, st60⟩ := own_callS X59 hx hZ hown (own_h hw 168 rfl) (own_h hw 169 rfl) (own_h hw 170 rfl) (own_h hw 171 rfl) (by decide) (rmc3U l Z a0 hw [] a2 k N cs i0 h0 n0 Z0 V_a2 hN O0 hST hi0 hbig hlt hch) (W := 0) (by decide) (by decide) (g := (mkF m 36 #[rv a1, rv a2, iv (0 : Int32), iv (Int32.ofNat (N)), .val .null, .unset] [(.int (Int32.ofNat (N))), (.int (0 : Int32)), (.ref a2)])) rfl (by rw [hml]; rfl) (argsL := [(.ref a2), (.int (0 : Int32)), (.int (Int32.ofNat (N)))]) (rest := []) (lenOf pd__28__5b_CII_29__5b_B rfl) rfl (Nat.le_of_eq rfl) (hb hby d3_36) rfl e59 (by decide) (by decide)
  refine own_go st60 ?_
  obtain ⟨b_60, kb_60, rfl, Nq60, K60, g_b_60, sb_b_60, r60_0⟩ := hQ60
  have ne_a1_b_60 : a1 ≠ b_60 := Nat.ne_of_lt (Nat.lt_of_lt_of_le E_a1.lt sb_b_60)
  have ne_a2_b_60 : a2 ≠ b_60 := Nat.ne_of_lt (Nat.lt_of_lt_of_le V_a2.lt sb_b_60)
  have sz_b_60 : h0.size ≤ b_60 := Nat.le_trans Kz.1 sb_b_60
  have Od60 := O0.keep K60 all0
  have E_a1_60 := E_a1.keep K60
  have F_value_a1_60 := F_value_a1.keep K60 nin0
  have F_coder_a1_60 := F_coder_a1.keep K60 nin0
  have V_a2_60 := V_a2.keep K60 nin0
  have Z60 : n0 ≤ T60.heap.size := Nat.le_trans Z0 K60.1
  have Kt60 := Kz.trans K60 all0
  have N60 := Fr.app N0 Nq60
  show own_Fin _ _ _ _ (T60.setTop (mkF m 39 #[rv a1, rv a2, iv (0 : Int32), iv (Int32.ofNat (N)), .val .null, .unset] [(.ref b_60)]))
  refine own_gk (XS.astore X60.here hx rfl (hb hby d3_39) rfl rfl rfl) ?_
  refine own_gk (XS.aloadN X60.here hx rfl (hb hby d3_41) rfl rfl) ?_
  refine own_gk (XS.aload X60.here hx rfl (hb hby d3_42) rfl rfl) ?_
  refine own_gk (XS.iloadN X60.here hx rfl (hb hby d3_44) rfl) ?_
  obtain ⟨_, T61, Lc61, X61, hQ61, st61⟩ := own_callS X60 hx hZ hown (own_h hw 175 rfl) (own_h hw 176 rfl) (own_h hw 170 rfl) (own_h hw 177 rfl) (by decide) (rmcfU l Z a0 hw [] b_60 kb_60 N (own_u cs) T60.heap n0 Z60 r60_0 hN hN1) (W := 1) (by decide) (by decide) (g := (mkF m 45 #[rv a1, rv a2, iv (0 : Int32), iv (Int32.ofNat (N)), .val .null, rv b_60] [(.int (Int32.ofNat (N))), (.ref b_60), (.ref a1)])) rfl (by rw [hml]; rfl) (argsL := [(.ref b_60), (.int (Int32.ofNat (N)))]) (rest := [(.ref a1)]) (lenOf pd__28__5b_BI_29_B rfl) rfl (Nat.le_of_eq rfl) (hb hby d3_45) rfl rfl (by decide) (by decide)
  obtain ⟨rfl, Nq61, e61⟩ := hQ61
  refine own_go st61 ?_
  have N61 := Fr.app N60 Nq61
  show own_Fin _ _ _ _ (T61.setTop (mkF m 48 #[rv a1, rv a2, iv (0 : Int32), iv (Int32.ofNat (N)), .val .null, rv b_60] [(.int (1 : Int32)), (.ref a1)]))
  obtain ⟨T62, h62, X62, e62, W62, st62⟩ := putFN X61 hx hZ hown (own_h hw 25 rfl) Via.refl e61 F_coder_a1_60 E_a1_60 (Or.inr ⟨(own_h hw 21 rfl), rfl, hnm⟩) (own_h hw 6 rfl) (ty := .byte) (v' := (.int (nar .byte (1 : Int32)))) (by decide) rfl (fits_nar_byte _) (g := (mkF m 48 #[rv a1, rv a2, iv (0 : Int32), iv (Int32.ofNat (N)), .val .null, rv b_60] [(.int (1 : Int32)), (.ref a1)])) rfl rfl (hb hby d3_48)
  refine own_by st62 ?_
  have F_coder_a1_62 := F_coder_a1_60.same W62
  have Od62 := Od60.wr W62 g_a1
  have E_a1_62 := E_a1_60.wr W62
  have F_value_a1_62 := F_value_a1_60.other W62 (Or.inr (slot_ne (Or.inr (own_h hw 20 rfl)) (Or.inr (own_h hw 21 rfl)) (by decide) (t := (.array .byte)) (t' := .byte) (by decide) (by decide)))
  have V_a2_62 := V_a2_60.other W62 (Ne.symm (Exa.neArv E_a1_60 V_a2_60 (own_h hw 6 rfl)))
  have r60_0_62 := r60_0.other W62 (Ne.symm ne_a1_b_60)
  have N62 := Fr.snoc X62 N61 g_a1
  have Z62 : n0 ≤ h62.size := Nat.le_trans Z60 (Keep.of_wr W62).1
  have K62 := Kt60.wr W62 (Or.inl (List.mem_of_getElem? (i := 0) rfl))
  refine own_gk (XS.aloadN X62.here hx rfl (hb hby d3_51) rfl rfl) ?_
  refine own_gk (XS.aload X62.here hx rfl (hb hby d3_52) rfl rfl) ?_
  obtain ⟨T63, h63, X63, e63, W63, st63⟩ := putF X62 hx hZ hown (host := "") (Or.inl (own_h hw 24 rfl)) Via.refl e62 F_value_a1_62 E_a1_62 (Or.inr ⟨(own_h hw 20 rfl), rfl, hnm⟩) (own_h hw 6 rfl) (ty := (.array .byte)) (by decide) rfl rfl (g := (mkF m 54 #[rv a1, rv a2, iv (0 : Int32), iv (Int32.ofNat (N)), .val .null, rv b_60] [(.ref b_60), (.ref a1)])) rfl rfl (hb hby d3_54)
  refine own_by st63 ?_
  have F_value_a1_63 := F_value_a1_62.same W63
  have Od63 := Od62.wr W63 g_a1
  have E_a1_63 := E_a1_62.wr W63
  have F_coder_a1_63 := F_coder_a1_62.other W63 (Or.inr (slot_ne (Or.inr (own_h hw 21 rfl)) (Or.inr (own_h hw 20 rfl)) (by decide) (t := .byte) (t' := (.array .byte)) (by decide) (by decide)))
  have V_a2_63 := V_a2_62.other W63 (Ne.symm (Exa.neArv E_a1_62 V_a2_62 (own_h hw 6 rfl)))
  have r60_0_63 := r60_0_62.other W63 (Ne.symm ne_a1_b_60)
  have N63 := Fr.snoc X63 N62 g_a1
  have Z63 : n0 ≤ h63.size := Nat.le_trans Z62 (Keep.of_wr W63).1
  have K63 := K62.wr W63 (Or.inl (List.mem_of_getElem? (i := 0) rfl))
  obtain ⟨fs64, hr64, hrun64, hended64, hW64, hsame64⟩ := X63.leave (v := none) (fun _ => rfl)
  refine own_done (X63.returnOut hx hrt (hb hby d3_57) hr64) hrun64 hended64 ⟨_, _, rfl, ?_, ⟨_, rfl⟩, hW64, hsame64.mono (by decide) (by decide)⟩
  show Qi4U Z a1 a2 k N cs i0 h0 n0 _ T63.heap _
  rw [e63]
  exact ⟨b_60, kb_60, rfl, N63, K63, g_b_60, sz_b_60, E_a1_63, F_value_a1_63, F_coder_a1_63, r60_0_63⟩
theorem ef_i4z (m : MethodId) (x0 : Addr) (x1 : Addr) (x2 : Int32) (x3 : Int32) : entryFrame m #[(.ref x0), (.ref x1), (.int x2), (.int x3), .null] 6 = mkF m 0 #[.val (.ref x0), .val (.ref x1), .val (.int x2), .val (.int x3), .val .null, .unset] [] := by first | (simp [entryFrame, mkF, argsToLocals, Value.category]; done) | rfl
def Qi4z (Z : State) (a1 : Addr) (a2 : Addr) (k : ClassId) (cs : Nat → Int32) (h0 : Heap) (n0 : Nat) (v : Option Value) (h : Heap) (L : List Loc) : Prop := v = none ∧ Fr n0 L ∧ Keep h0 h [a1] ∧ own_Str Z h a1 0 cs
abbrev Gi4z (Z : State) (a1 : Addr) (a2 : Addr) (k : ClassId) (cs : Nat → Int32) (h0 : Heap) (n0 : Nat) (s : State) : Outcome → State → Prop := fun o U' => ∃ v L, o = .returned v ∧ (Qi4z Z a1 a2 k cs h0 n0 v U'.heap L ∧ own_K Z U'.heap U'.vm) ∧ ReturnedEndW s o U' L ({ frames := 1, cells := 2, slots := 4, locals := 12 } : Room).cells ({ frames := 1, cells := 2, slots := 4, locals := 12 } : Room).slots
theorem d3_8 : decode jdk_42_method_149_code 8 = .ok (.aload_n 0, 1) := by decide +kernel
theorem d3_9 : decode jdk_42_method_149_code 9 = .ok (.ldc 7, 2) := by decide +kernel
theorem d3_11 : decode jdk_42_method_149_code 11 = .ok (.getfield 9, 3) := by decide +kernel
theorem d3_14 : decode jdk_42_method_149_code 14 = .ok (.putfield 9, 3) := by decide +kernel
theorem d3_17 : decode jdk_42_method_149_code 17 = .ok (.aload_n 0, 1) := by decide +kernel
theorem d3_18 : decode jdk_42_method_149_code 18 = .ok (.ldc 7, 2) := by decide +kernel
theorem d3_20 : decode jdk_42_method_149_code 20 = .ok (.getfield 15, 3) := by decide +kernel
theorem d3_23 : decode jdk_42_method_149_code 23 = .ok (.putfield 15, 3) := by decide +kernel
theorem d3_26 : decode jdk_42_method_149_code 26 = .ok (.return_, 1) := by decide +kernel
set_option maxRecDepth 65536 in
set_option maxHeartbeats 40000000 in
theorem rmi4z (l : Launch) (Z : State) (a0 : Array Value) (hw : ∀ d ∈ tables_1, d.before a0 Z = true) (ws : List Jvm.Cond) (a1 : Addr) (a2 : Addr) (k : ClassId) (cs : Nat → Int32) (h0 : Heap) (n0 : Nat) (Z0 : n0 ≤ h0.size) (E_a1 : Exa Z h0 a1 "java/lang/String") (F_value_a1 : Fld Z h0 a1 "java/lang/String" "value" "[B" .null) (F_coder_a1 : Fld Z h0 a1 "java/lang/String" "coder" "B" (.int (0 : Int32))) (g_a1 : n0 ≤ a1) (O0 : own_Old Z n0 h0) (hST : own_ST Z) (V_a2 : Arv Z h0 a2 k .char (0 : Int32) [] (.int (0 : Int32))) (hh7 : Jvm.Lit.constHeld Z "java/lang/String" 7) (hcw : Jvm.Lit.compactW.before a0 Z = true) :
    MetFree l own_y3 (head1 (Jvm.Cond.code own_y3 jdk_42_method_149_code 6 none :: ws) ({ frames := 1, cells := 2, slots := 4, locals := 12 } : Room)) (fun a U => a = #[(.ref a1), (.ref a2), (.int (0 : Int32)), (.int (0 : Int32)), .null] ∧ (Z.Warmed39 U.vm ∧ own_K Z h0 U.vm) ∧ U.heap = h0) (fun _ _ _ _ _ => True) (fun _ U o U' => ∃ v L, o = .returned v ∧ (Qi4z Z a1 a2 k cs h0 n0 v U'.heap L ∧ own_K Z U'.heap U'.vm) ∧ ReturnedEndW U o U' L ({ frames := 1, cells := 2, slots := 4, locals := 12 } : Room).cells ({ frames := 1, cells := 2, slots := 4, locals := 12 } : Room).slots) := by
  refine MetFree.of_bodySF (plainFor_of_name pn_java_lang_String) hisR ?_
  intro p e s m args below meth c s₁ Bd hml0 hP hK
  obtain ⟨rfl, ⟨hZ, hK0⟩, hh⟩ := hP
  have hx := Bd.exec
  have hby := Bd.bytes
  have hml : c.maxLocals = 6 := hml0
  have hown : s.vm.findClass "java/lang/String" = some m.cls := findClass_of_methodNamed Bd.named
  have hnm := (name_of_methodNamed Bd.named Bd.method).1
  have X0 : Stand p l e ({ frames := 1, cells := 2, slots := 4, locals := 12 } : Room) s m #[(.ref a1), (.ref a2), (.int (0 : Int32)), (.int (0 : Int32)), .null] below meth c s₁ [] 0 0 := Stand.of_body Bd
  have e0 : s₁.heap = h0 := by rw [← hh, Bd.state]; rfl
  have es0 : s.heap = h0 := hh
  have N0 := Fr.nil n0
  show own_Fin p e below (Gi4z Z a1 a2 k cs h0 n0 s) (s₁.setTop (entryFrame m #[(.ref a1), (.ref a2), (.int (0 : Int32)), (.int (0 : Int32)), .null] 6))
  rw [ef_i4z m a1 a2 (0 : Int32) (0 : Int32)]
  have X0w : Stand p l e ({ frames := 1, cells := 2, slots := 4, locals := 12 } : Room) (s.setVm s.vm) m #[(.ref a1), (.ref a2), (.int (0 : Int32)), (.int (0 : Int32)), .null] below meth c s₁ [] 0 0 := X0
  have hS0 : s.Since s.vm 0 := (State.WarmedH.refl s).since 0
  have hk0 : 0 ≤ h0.size := Nat.zero_le _
  have Kz := Keep.refl h0 [a1]
  obtain ⟨ct, sv, hct, hsv, S__assertionsDisabled, S_HI_BYTE_SHIFT, S_LO_BYTE_SHIFT, S_COMPACT_STRINGS, S_SIOOBE_FORMATTER⟩ := id hST
  have wS : ∀ a ∈ Bundle.stringAtoms, a.before a0 Z = true := by
    intro d hd
    simp only [Bundle.stringAtoms, List.mem_cons, List.not_mem_nil, or_false] at hd
    rcases hd with rfl | rfl | rfl | rfl | rfl | rfl | rfl
    · exact (own_h hw 7 rfl)
    · exact (own_h hw 6 rfl)
    · exact (own_h hw 19 rfl)
    · exact (own_h hw 20 rfl)
    · exact (own_h hw 21 rfl)
    · exact (own_h hw 22 rfl)
    · exact (own_h hw 23 rfl)
  refine own_gk (XS.aloadN X0w.here hx rfl (hb hby d3_0) rfl rfl) ?_
  obtain ⟨T65, X65, e65, st65⟩ := initO X0w hx hZ hown (own_h hw 15 rfl) (own_h hw 16 rfl) (own_h hw 17 rfl) e0 (g := (mkF m 1 #[rv a1, rv a2, iv (0 : Int32), iv (0 : Int32), .val .null, .unset] [(.ref a1)])) rfl (by rw [hml]; rfl) rfl (hb hby d3_1) (by decide) (W := 0) (by show 2 * 0 + _ ≤ _; exact Nat.le_of_eq rfl) (by decide)
  refine own_by st65 ?_
  refine own_gk (XS.iloadN X65.here hx rfl (hb hby d3_4) rfl) ?_
  refine own_gk (XS.ifNo X65.here hx rfl (hb hby d3_5) rfl ((if0 _ _).trans (teq (by decide : (0 : Int32) = (0 : Int32))).2)) ?_
  refine own_gk (XS.aloadN X65.here hx rfl (hb hby d3_8) rfl rfl) ?_
  show own_Fin _ _ _ _ (T65.setTop (mkF m 9 #[rv a1, rv a2, iv (0 : Int32), iv (0 : Int32), .val .null, .unset] [(.ref a1)]))
  obtain ⟨a66, T66, h66, k66, b66, vm66, kc66, X66, e66, E66, hS66, hk66, hZ66, hown66, Ex66, Fc66, Fv66, Va66, Li66, IBk66, st66⟩ := own_ldcK (s := s) (vm0 := s.vm) X65 hx hZ hown (own_h hw 18 rfl) wS e65 hS0 hk0 (fun b cl q => by rw [es0]; exact O0.2.2 b cl q) hK0 hh7 hcw (g := (mkF m 9 #[rv a1, rv a2, iv (0 : Int32), iv (0 : Int32), .val .null, .unset] [(.ref a1)])) rfl (hb hby d3_9) (by decide) (by decide)
  refine own_by st66 ?_
  have Od66 := O0.ext E66
  have E_a1_66 := E_a1.ext E66
  have F_value_a1_66 := F_value_a1.ext E66
  have F_coder_a1_66 := F_coder_a1.ext E66
  have V_a2_66 := V_a2.ext E66
  have Z66 : n0 ≤ h66.size := Nat.le_trans Z0 E66.1
  have K66 := Kz.ext E66
  have ne_a1_a66 : a1 ≠ a66 := Fld.ne F_value_a1_66 Fv66 (fun q => by cases q)
  have ne_a1_b66 : a1 ≠ b66 := Exa.neArv E_a1_66 Va66 (own_h hw 6 rfl)
  obtain ⟨T67, X67, e67, st67⟩ := getF X66 hx hZ66 hown66 (host := "") (Or.inl (own_h hw 24 rfl)) Via.refl e66 Fv66 (g := (mkF m 11 #[rv a1, rv a2, iv (0 : Int32), iv (0 : Int32), .val .null, .unset] [(.ref a66), (.ref a1)])) rfl rfl (hb hby d3_11)
  refine own_by st67 ?_
  obtain ⟨T68, h68, X68, e68, W68, st68⟩ := putF X67 hx hZ66 hown66 (host := "") (Or.inl (own_h hw 24 rfl)) Via.refl e67 F_value_a1_66 E_a1_66 (Or.inr ⟨(own_h hw 20 rfl), rfl, hnm⟩) (own_h hw 6 rfl) (ty := (.array .byte)) (by decide) rfl rfl (g := (mkF m 14 #[rv a1, rv a2, iv (0 : Int32), iv (0 : Int32), .val .null, .unset] [(.ref b66), (.ref a1)])) rfl rfl (hb hby d3_14)
  refine own_by st68 ?_
  have F_value_a1_68 := F_value_a1_66.same W68
  have Od68 := Od66.wr W68 g_a1
  have E_a1_68 := E_a1_66.wr W68
  have F_coder_a1_68 := F_coder_a1_66.other W68 (Or.inr (slot_ne (Or.inr (own_h hw 21 rfl)) (Or.inr (own_h hw 20 rfl)) (by decide) (t := .byte) (t' := (.array .byte)) (by decide) (by decide)))
  have V_a2_68 := V_a2_66.other W68 (Ne.symm (Exa.neArv E_a1_66 V_a2_66 (own_h hw 6 rfl)))
  have Ex66_68 := Ex66.wr W68
  have Fc66_68 := Fc66.other W68 (Or.inl (Ne.symm ne_a1_a66))
  have Fv66_68 := Fv66.other W68 (Or.inl (Ne.symm ne_a1_a66))
  have Va66_68 := Va66.other W68 (Ne.symm ne_a1_b66)
  have N68 := Fr.snoc X68 N0 g_a1
  have Z68 : n0 ≤ h68.size := Nat.le_trans Z66 (Keep.of_wr W68).1
  have hk68 : k66 ≤ h68.size := Nat.le_trans hk66 (Keep.of_wr W68).1
  have K68 := K66.wr W68 (Or.inl (List.mem_of_getElem? (i := 0) rfl))
  refine own_gk (XS.aloadN X68.here hx rfl (hb hby d3_17) rfl rfl) ?_
  refine own_by (ldcAgain (s := s) (vm0 := vm66) X68 hx hZ66 hown66 (own_h hw 18 rfl) Li66 (g := (mkF m 18 #[rv a1, rv a2, iv (0 : Int32), iv (0 : Int32), .val .null, .unset] [(.ref a1)])) rfl (hb hby d3_18)) ?_
  show own_Fin _ _ _ _ (T68.setTop (mkF m 20 #[rv a1, rv a2, iv (0 : Int32), iv (0 : Int32), .val .null, .unset] [(.ref a66), (.ref a1)]))
  obtain ⟨T69, X69, e69, st69⟩ := getF X68 hx hZ66 hown66 (host := "") (Or.inl (own_h hw 25 rfl)) Via.refl e68 Fc66_68 (g := (mkF m 20 #[rv a1, rv a2, iv (0 : Int32), iv (0 : Int32), .val .null, .unset] [(.ref a66), (.ref a1)])) rfl rfl (hb hby d3_20)
  refine own_by st69 ?_
  obtain ⟨T70, h70, X70, e70, W70, st70⟩ := putFN X69 hx hZ66 hown66 (own_h hw 25 rfl) Via.refl e69 F_coder_a1_68 E_a1_68 (Or.inr ⟨(own_h hw 21 rfl), rfl, hnm⟩) (own_h hw 6 rfl) (ty := .byte) (v' := (.int (nar .byte (0 : Int32)))) (by decide) rfl (fits_nar_byte _) (g := (mkF m 23 #[rv a1, rv a2, iv (0 : Int32), iv (0 : Int32), .val .null, .unset] [(.int (0 : Int32)), (.ref a1)])) rfl rfl (hb hby d3_23)
  refine own_by st70 ?_
  have F_coder_a1_70 := F_coder_a1_68.same W70
  have Od70 := Od68.wr W70 g_a1
  have E_a1_70 := E_a1_68.wr W70
  have F_value_a1_70 := F_value_a1_68.other W70 (Or.inr (slot_ne (Or.inr (own_h hw 20 rfl)) (Or.inr (own_h hw 21 rfl)) (by decide) (t := (.array .byte)) (t' := .byte) (by decide) (by decide)))
  have V_a2_70 := V_a2_68.other W70 (Ne.symm (Exa.neArv E_a1_68 V_a2_68 (own_h hw 6 rfl)))
  have Ex66_70 := Ex66_68.wr W70
  have Fc66_70 := Fc66_68.other W70 (Or.inl (Ne.symm ne_a1_a66))
  have Fv66_70 := Fv66_68.other W70 (Or.inl (Ne.symm ne_a1_a66))
  have Va66_70 := Va66_68.other W70 (Ne.symm ne_a1_b66)
  have N70 := Fr.snoc X70 N68 g_a1
  have Z70 : n0 ≤ h70.size := Nat.le_trans Z68 (Keep.of_wr W70).1
  have hk70 : k66 ≤ h70.size := Nat.le_trans hk68 (Keep.of_wr W70).1
  have K70 := K68.wr W70 (Or.inl (List.mem_of_getElem? (i := 0) rfl))
  obtain ⟨fs71, hr71, hrun71, hended71, hRW71⟩ := X70.leaveW (s := s) hS66 (n := k66) (by rw [e70]; exact hk70) (v := none) (fun _ => rfl)
  refine own_done (X70.returnOut hx Bd.returns (hb hby d3_26) hr71) hrun71 hended71 ⟨_, _, rfl, ?_, hRW71.1, hRW71.2.1, hRW71.2.2.1, hRW71.2.2.2.mono (by decide) (by decide)⟩
  show (Qi4z Z a1 a2 k cs h0 n0 _ T70.heap _ ∧ own_K Z T70.heap T70.vm)
  rw [e70]
  exact ⟨⟨rfl, N70, K70, ⟨E_a1_70, b66, kc66, F_value_a1_70, Or.inl ⟨F_coder_a1_70, fun i h => absurd h (Nat.not_lt_zero _), Va66_70⟩⟩⟩, own_K.warm (s := s) (vm0 := vm66) (Or.inr ⟨a66, b66, kc66, IBk66, Li66, Ex66_70, Fc66_70, Fv66_70, Va66_70⟩) X70.warmed⟩
theorem ef_strS (m : MethodId) (x0 : Addr) (x1 : Addr) : entryFrame m #[(.ref x0), (.ref x1)] 2 = mkF m 0 #[.val (.ref x0), .val (.ref x1)] [] := by first | (simp [entryFrame, mkF, argsToLocals, Value.category]; done) | rfl
def QstrS (Z : State) (a1 : Addr) (a2 : Addr) (k : ClassId) (N : Nat) (cs : Nat → Int32) (h0 : Heap) (n0 : Nat) (v : Option Value) (h : Heap) (L : List Loc) : Prop := v = none ∧ Fr n0 L ∧ Keep h0 h [a1] ∧ own_Str Z h a1 N cs
abbrev GstrS (Z : State) (a1 : Addr) (a2 : Addr) (k : ClassId) (N : Nat) (cs : Nat → Int32) (h0 : Heap) (n0 : Nat) (s : State) : Outcome → State → Prop := fun o U' => ∃ v L, o = .returned v ∧ (QstrS Z a1 a2 k N cs h0 n0 v U'.heap L ∧ own_K Z U'.heap U'.vm) ∧ ReturnedEndW s o U' L ({ frames := 5, cells := 2, slots := 192, locals := 74 } : Room).cells ({ frames := 5, cells := 2, slots := 192, locals := 74 } : Room).slots
theorem d2_0 : decode jdk_42_method_3_code 0 = .ok (.aload_n 0, 1) := by decide +kernel
theorem d2_1 : decode jdk_42_method_3_code 1 = .ok (.aload_n 1, 1) := by decide +kernel
theorem d2_2 : decode jdk_42_method_3_code 2 = .ok (.iconst 0, 1) := by decide +kernel
theorem d2_3 : decode jdk_42_method_3_code 3 = .ok (.aload_n 1, 1) := by decide +kernel
theorem d2_4 : decode jdk_42_method_3_code 4 = .ok (.arraylength, 1) := by decide +kernel
theorem d2_5 : decode jdk_42_method_3_code 5 = .ok (.aconst_null, 1) := by decide +kernel
theorem d2_6 : decode jdk_42_method_3_code 6 = .ok (.invokespecial 27, 3) := by decide +kernel
theorem pd__28__5b_CIILjava_2f_lang_2f_Void_3b__29_V : parseMethodDescriptor "([CIILjava/lang/Void;)V" = some ⟨[(.array .char), .int, .int, (.object "java/lang/Void")], none⟩ := by decide +kernel
theorem d2_9 : decode jdk_42_method_3_code 9 = .ok (.return_, 1) := by decide +kernel
set_option maxRecDepth 65536 in
set_option maxHeartbeats 40000000 in
theorem rmstrS (l : Launch) (Z : State) (a0 : Array Value) (hw : ∀ d ∈ tables_1, d.before a0 Z = true) (ws : List Jvm.Cond) (a1 : Addr) (a2 : Addr) (k : ClassId) (N : Nat) (cs : Nat → Int32) (h0 : Heap) (n0 : Nat) (Z0 : n0 ≤ h0.size) (E_a1 : Exa Z h0 a1 "java/lang/String") (F_value_a1 : Fld Z h0 a1 "java/lang/String" "value" "[B" .null) (F_coder_a1 : Fld Z h0 a1 "java/lang/String" "coder" "B" (.int (0 : Int32))) (g_a1 : n0 ≤ a1) (O0 : own_Old Z n0 h0) (hST : own_ST Z) (V_a2 : Arv Z h0 a2 k .char (Int32.ofNat (N)) (List.map Value.int (own_R cs N)) (.int (0 : Int32))) (hN : N ≤ 64) (hch : ∀ i, own_ch (cs i)) (hh7 : Jvm.Lit.constHeld Z "java/lang/String" 7) (hcw : Jvm.Lit.compactW.before a0 Z = true) :
    MetFree l own_y2 (head1 (Jvm.Cond.code own_y2 jdk_42_method_3_code 2 none :: ws) ({ frames := 5, cells := 2, slots := 192, locals := 74 } : Room)) (fun a U => a = #[(.ref a1), (.ref a2)] ∧ (Z.Warmed39 U.vm ∧ own_K Z h0 U.vm) ∧ U.heap = h0) (fun _ _ _ _ _ => True) (fun _ U o U' => ∃ v L, o = .returned v ∧ (QstrS Z a1 a2 k N cs h0 n0 v U'.heap L ∧ own_K Z U'.heap U'.vm) ∧ ReturnedEndW U o U' L ({ frames := 5, cells := 2, slots := 192, locals := 74 } : Room).cells ({ frames := 5, cells := 2, slots := 192, locals := 74 } : Room).slots) := by
  refine MetFree.of_bodySF (plainFor_of_name pn_java_lang_String) hisR ?_
  intro p e s m args below meth c s₁ Bd hml0 hP hK
  obtain ⟨rfl, ⟨hZ, hK0⟩, hh⟩ := hP
  have hx := Bd.exec
  have hby := Bd.bytes
  have hml : c.maxLocals = 2 := hml0
  have hown : s.vm.findClass "java/lang/String" = some m.cls := findClass_of_methodNamed Bd.named
  have hnm := (name_of_methodNamed Bd.named Bd.method).1
  have X0 : Stand p l e ({ frames := 5, cells := 2, slots := 192, locals := 74 } : Room) s m #[(.ref a1), (.ref a2)] below meth c s₁ [] 0 0 := Stand.of_body Bd
  have e0 : s₁.heap = h0 := by rw [← hh, Bd.state]; rfl
  have es0 : s.heap = h0 := hh
  have N0 := Fr.nil n0
  show own_Fin p e below (GstrS Z a1 a2 k N cs h0 n0 s) (s₁.setTop (entryFrame m #[(.ref a1), (.ref a2)] 2))
  rw [ef_strS m a1 a2]
  have X0w : Stand p l e ({ frames := 5, cells := 2, slots := 192, locals := 74 } : Room) (s.setVm s.vm) m #[(.ref a1), (.ref a2)] below meth c s₁ [] 0 0 := X0
  have hS0 : s.Since s.vm 0 := (State.WarmedH.refl s).since 0
  have hk0 : 0 ≤ h0.size := Nat.zero_le _
  have Kz := Keep.refl h0 [a1]
  refine own_gk (XS.aloadN X0w.here hx rfl (hb hby d2_0) rfl rfl) ?_
  refine own_gk (XS.aloadN X0w.here hx rfl (hb hby d2_1) rfl rfl) ?_
  refine own_gk (XS.iconst X0w.here hx rfl (hb hby d2_2)) ?_
  refine own_gk (XS.aloadN X0w.here hx rfl (hb hby d2_3) rfl rfl) ?_
  obtain ⟨cl72, Ar72, qa72, Sa72, Na72, Ha72, Ga72⟩ := id V_a2
  refine own_by (X0w.arraylength hx (by rw [e0]; exact Ar72.1) (State.isArrayOf_alike hZ.alike Ar72.2.1) (g := (mkF m 4 #[rv a1, rv a2] [(.ref a2), (.int (0 : Int32)), (.ref a2), (.ref a1)])) rfl rfl (hb hby d2_4)) ?_
  rw [len_of Sa72 Na72]
  show own_Fin _ _ _ _ (s₁.setTop (mkF m 5 #[rv a1, rv a2] [(.int (Int32.ofNat (N))), (.int (0 : Int32)), (.ref a2), (.ref a1)]))
  refine own_gk (XS.aconstNull X0w.here hx rfl (hb hby d2_5)) ?_
  rcases Nat.eq_zero_or_pos N with rfl | hN1
  · have V_a2z : Arv Z h0 a2 k .char (0 : Int32) [] (.int (0 : Int32)) := V_a2
    obtain ⟨_, _, ⟨T73, L73, k73, n73⟩, -, X73, hs273, hgr73, ⟨Lc73, ⟨hQ73, hK73⟩, l73, y73, z73⟩, st73⟩ := X0w.specialBackS hx (y := own_y3) rfl hown (mvT hZ (own_h hw 11 rfl)) (mvT hZ (own_h hw 12 rfl)) (mvT hZ (own_h hw 14 rfl)) (by decide) (own_backK (W := 0) (rmi4z l Z a0 hw [] a1 a2 k cs h0 n0 Z0 E_a1 F_value_a1 F_coder_a1 g_a1 O0 hST V_a2z hh7 hcw) hZ (own_h hw 14 rfl) (own_h hw 7 rfl) (by decide) (by decide)) (g := (mkF m 6 #[rv a1, rv a2] [.null, (.int (0 : Int32)), (.int (0 : Int32)), (.ref a2), (.ref a1)])) rfl (by rw [hml]; rfl) (Steps.refl _) (a := a1) (argsL := [(.ref a2), (.int (0 : Int32)), (.int (0 : Int32)), .null]) (rest := []) (lenOf pd__28__5b_CIILjava_2f_lang_2f_Void_3b__29_V rfl) rfl (by show 2 * 0 + _ ≤ _; exact Nat.le_of_eq rfl) (hb hby d2_6) (fun _ hv => ⟨rfl, e0, (by decide : 0 + 2 ≤ _), (by decide : 0 + 4 ≤ _), own_K.warm hK0 hv⟩)
    dsimp only [Pt.U, Pt.locs, Pt.cells, Pt.slots] at X73 l73 y73 z73 st73 hQ73 hs273 hgr73 hK73
    subst l73 y73 z73
    obtain ⟨Xr73, hS73, hZ73, hown73⟩ := rebS hS0 (show 0 ≤ s₁.heap.size by rw [e0]; exact hk0) X73 hs273 hgr73 hZ hown
    refine own_go st73 ?_
    obtain ⟨rfl, Nq73, K73, r73_0⟩ := hQ73
    have Od73 := O0.keep K73 (allS g_a1 all0)
    have E_a1_73 := E_a1.keep K73
    have V_a2z_73 := V_a2z.keep K73 (ninS (Ne.symm (Exa.neArv E_a1 V_a2z (own_h hw 6 rfl))) nin0)
    have Z73 : n0 ≤ T73.heap.size := Nat.le_trans Z0 K73.1
    have hk73 : 0 ≤ T73.heap.size := Nat.le_trans hk0 K73.1
    have Kt73 := Kz.trans K73 (allS (P := fun x => x ∈ _ ∨ _ ≤ x) (Or.inl (List.mem_of_getElem? (i := 0) rfl)) all0)
    have hkr73 : T73.heap.size ≤ T73.heap.size := Nat.le_refl _
    have N73 := Fr.app N0 Nq73
    obtain ⟨fs74, hr74, hrun74, hended74, hRW74⟩ := Xr73.leaveW (s := s) hS73 (n := T73.heap.size) hkr73 (v := none) (fun _ => rfl)
    refine own_done (Xr73.returnOut hx Bd.returns (hb hby d2_9) hr74) hrun74 hended74 ⟨_, _, rfl, ?_, hRW74.1, hRW74.2.1, hRW74.2.2.1, hRW74.2.2.2.mono (by decide) (by decide)⟩
    show (QstrS Z a1 a2 k 0 cs h0 n0 _ T73.heap _ ∧ own_K Z T73.heap T73.vm)
    exact ⟨⟨rfl, N73, Kt73, r73_0⟩, own_K.warm (s := s) (vm0 := T73.vm) hK73 Xr73.warmed⟩
  · rcases own_first cs N with hal | ⟨i0, hi0, hbig, hlt⟩
    · obtain ⟨_, T75, Lc75, X75, hQ75, st75⟩ := own_callI X0w hx hZ rfl hown (own_h hw 11 rfl) (own_h hw 12 rfl) (own_h hw 7 rfl) (own_h hw 14 rfl) (by decide) (rmi4L l Z a0 hw [] a1 a2 k N cs h0 n0 Z0 E_a1 F_value_a1 F_coder_a1 g_a1 O0 hST V_a2 hN hN1 hal) (W := 0) (by decide) (by decide) (g := (mkF m 6 #[rv a1, rv a2] [.null, (.int (Int32.ofNat (N))), (.int (0 : Int32)), (.ref a2), (.ref a1)])) rfl (by rw [hml]; rfl) (argsL := [(.ref a2), (.int (0 : Int32)), (.int (Int32.ofNat (N))), .null]) (rest := []) (lenOf pd__28__5b_CIILjava_2f_lang_2f_Void_3b__29_V rfl) rfl (Nat.le_of_eq rfl) (hb hby d2_6) rfl e0 (by decide) (by decide)
      refine own_go st75 ?_
      obtain ⟨b_75, kb_75, rfl, Nq75, K75, g_b_75, sb_b_75, r75_0, r75_1, r75_2, r75_3⟩ := hQ75
      have ne_a1_b_75 : a1 ≠ b_75 := Nat.ne_of_lt (Nat.lt_of_lt_of_le E_a1.lt sb_b_75)
      have ne_a2_b_75 : a2 ≠ b_75 := Nat.ne_of_lt (Nat.lt_of_lt_of_le V_a2.lt sb_b_75)
      have sz_b_75 : h0.size ≤ b_75 := Nat.le_trans Kz.1 sb_b_75
      have Od75 := O0.keep K75 (allS g_a1 all0)
      have E_a1_75 := E_a1.keep K75
      have V_a2_75 := V_a2.keep K75 (ninS (Ne.symm (Exa.neArv E_a1 V_a2 (own_h hw 6 rfl))) nin0)
      have Z75 : n0 ≤ T75.heap.size := Nat.le_trans Z0 K75.1
      have hk75 : 0 ≤ T75.heap.size := Nat.le_trans hk0 K75.1
      have Kt75 := Kz.trans K75 (allS (P := fun x => x ∈ _ ∨ _ ≤ x) (Or.inl (List.mem_of_getElem? (i := 0) rfl)) all0)
      have N75 := Fr.app N0 Nq75
      obtain ⟨fs76, hr76, hrun76, hended76, hRW76⟩ := X75.leaveW (s := s) hS0 (n := 0) hk75 (v := none) (fun _ => rfl)
      refine own_done (X75.returnOut hx Bd.returns (hb hby d2_9) hr76) hrun76 hended76 ⟨_, _, rfl, ?_, hRW76.1, hRW76.2.1, hRW76.2.2.1, hRW76.2.2.2.mono (by decide) (by decide)⟩
      show (QstrS Z a1 a2 k N cs h0 n0 _ T75.heap _ ∧ own_K Z T75.heap T75.vm)
      exact ⟨⟨rfl, N75, Kt75, ⟨r75_0, b_75, kb_75, r75_1, Or.inl ⟨r75_2, hal, r75_3⟩⟩⟩, own_K.warm (s := s) (vm0 := s.vm) (own_K.keep1 hK0 E_a1 F_value_a1 (own_h hw 6 rfl) Kt75) X75.warmed⟩
    · obtain ⟨_, T77, Lc77, X77, hQ77, st77⟩ := own_callI X0w hx hZ rfl hown (own_h hw 11 rfl) (own_h hw 12 rfl) (own_h hw 7 rfl) (own_h hw 14 rfl) (by decide) (rmi4U l Z a0 hw [] a1 a2 k N cs i0 h0 n0 Z0 E_a1 F_value_a1 F_coder_a1 g_a1 O0 hST V_a2 hN hN1 hi0 hbig hlt hch) (W := 0) (by decide) (by decide) (g := (mkF m 6 #[rv a1, rv a2] [.null, (.int (Int32.ofNat (N))), (.int (0 : Int32)), (.ref a2), (.ref a1)])) rfl (by rw [hml]; rfl) (argsL := [(.ref a2), (.int (0 : Int32)), (.int (Int32.ofNat (N))), .null]) (rest := []) (lenOf pd__28__5b_CIILjava_2f_lang_2f_Void_3b__29_V rfl) rfl (Nat.le_of_eq rfl) (hb hby d2_6) rfl e0 (by decide) (by decide)
      refine own_go st77 ?_
      obtain ⟨b_77, kb_77, rfl, Nq77, K77, g_b_77, sb_b_77, r77_0, r77_1, r77_2, r77_3⟩ := hQ77
      have ne_a1_b_77 : a1 ≠ b_77 := Nat.ne_of_lt (Nat.lt_of_lt_of_le E_a1.lt sb_b_77)
      have ne_a2_b_77 : a2 ≠ b_77 := Nat.ne_of_lt (Nat.lt_of_lt_of_le V_a2.lt sb_b_77)
      have sz_b_77 : h0.size ≤ b_77 := Nat.le_trans Kz.1 sb_b_77
      have Od77 := O0.keep K77 (allS g_a1 all0)
      have E_a1_77 := E_a1.keep K77
      have V_a2_77 := V_a2.keep K77 (ninS (Ne.symm (Exa.neArv E_a1 V_a2 (own_h hw 6 rfl))) nin0)
      have Z77 : n0 ≤ T77.heap.size := Nat.le_trans Z0 K77.1
      have hk77 : 0 ≤ T77.heap.size := Nat.le_trans hk0 K77.1
      have Kt77 := Kz.trans K77 (allS (P := fun x => x ∈ _ ∨ _ ≤ x) (Or.inl (List.mem_of_getElem? (i := 0) rfl)) all0)
      have N77 := Fr.app N0 Nq77
      obtain ⟨fs78, hr78, hrun78, hended78, hRW78⟩ := X77.leaveW (s := s) hS0 (n := 0) hk77 (v := none) (fun _ => rfl)
      refine own_done (X77.returnOut hx Bd.returns (hb hby d2_9) hr78) hrun78 hended78 ⟨_, _, rfl, ?_, hRW78.1, hRW78.2.1, hRW78.2.2.1, hRW78.2.2.2.mono (by decide) (by decide)⟩
      show (QstrS Z a1 a2 k N cs h0 n0 _ T77.heap _ ∧ own_K Z T77.heap T77.vm)
      exact ⟨⟨rfl, N77, Kt77, ⟨r77_0, b_77, kb_77, r77_1, Or.inr ⟨r77_2, r77_3⟩⟩⟩, own_K.warm (s := s) (vm0 := s.vm) (own_K.keep1 hK0 E_a1 F_value_a1 (own_h hw 6 rfl) Kt77) X77.warmed⟩
theorem ef_R_1 (m : MethodId) (x0 : Addr) : entryFrame m #[(.ref x0)] 1 = mkF m 0 #[.val (.ref x0)] [] := by first | (simp [entryFrame, mkF, argsToLocals, Value.category]; done) | rfl
def Qco_0 (Z : State) (a1 : Addr) (h0 : Heap) (n0 : Nat) (v : Option Value) (h : Heap) (L : List Loc) : Prop := v = some (.int (0 : Int32)) ∧ Fr n0 L ∧ h = h0
theorem d7_0 : decode jdk_42_method_152_code 0 = .ok (.getstatic 38, 3) := by decide +kernel
theorem d7_3 : decode jdk_42_method_152_code 3 = .ok (.ifCond .eq 10, 3) := by decide +kernel
theorem d7_6 : decode jdk_42_method_152_code 6 = .ok (.aload_n 0, 1) := by decide +kernel
theorem d7_7 : decode jdk_42_method_152_code 7 = .ok (.getfield 15, 3) := by decide +kernel
theorem d7_10 : decode jdk_42_method_152_code 10 = .ok (.goto 4, 3) := by decide +kernel
theorem d7_14 : decode jdk_42_method_152_code 14 = .ok (.ireturn, 1) := by decide +kernel
set_option maxRecDepth 65536 in
set_option maxHeartbeats 40000000 in
theorem rmco_0 (l : Launch) (Z : State) (a0 : Array Value) (hw : ∀ d ∈ tables_1, d.before a0 Z = true) (ws : List Jvm.Cond) (a1 : Addr) (h0 : Heap) (n0 : Nat) (Z0 : n0 ≤ h0.size) (F_coder_a1 : Fld Z h0 a1 "java/lang/String" "coder" "B" (.int (0 : Int32))) (O0 : own_Old Z n0 h0) (hST : own_ST Z) : own_Met l own_y7 jdk_42_method_152_code 1 (some .byte) ws ⟨0, 0, 0, 0⟩ #[(.ref a1)] Z h0 (Qco_0 Z a1 h0 n0) := by
  refine own_met (plainFor_of_name pn_java_lang_String) (fun p e s m below meth c s₁ hx hby hml hrt hlk hZ hown hnm X0 e0 es0 => ?_)
  have N0 := Fr.nil n0
  rw [ef_R_1 m a1]
  obtain ⟨ct, sv, hct, hsv, S__assertionsDisabled, S_HI_BYTE_SHIFT, S_LO_BYTE_SHIFT, S_COMPACT_STRINGS, S_SIOOBE_FORMATTER⟩ := id hST
  obtain ⟨T79, X79, e79, st79⟩ := getS2 X0 hx hZ hown (host := "") (Or.inl (own_h hw 40 rfl)) Via.refl e0 (S_COMPACT_STRINGS.ext O0.2) (g := (mkF m 0 #[rv a1] [])) rfl (hb hby d7_0)
  refine own_by st79 ?_
  refine own_gk (XS.ifNo X79.here hx rfl (hb hby d7_3) rfl ((if0 _ _).trans (feq (show ¬ (ct = (0 : Int32)) from hct)).1)) ?_
  refine own_gk (XS.aloadN X79.here hx rfl (hb hby d7_6) rfl rfl) ?_
  obtain ⟨T80, X80, e80, st80⟩ := getF X79 hx hZ hown (host := "") (Or.inl (own_h hw 25 rfl)) Via.refl e79 F_coder_a1 (g := (mkF m 7 #[rv a1] [(.ref a1)])) rfl rfl (hb hby d7_7)
  refine own_by st80 ?_
  refine own_gk (XS.goto X80.here hx rfl (pc0 := 10) (pc' := 14) rfl (hb hby d7_10) (by decide) (by decide)) ?_
  show own_Fin _ _ _ _ (T80.setTop (mkF m 14 #[rv a1] [(.int (0 : Int32))]))
  obtain ⟨fs81, hr81, hrun81, hended81, hW81, hsame81⟩ := X80.leave (v := some (.int (0 : Int32))) (fun h => by rw [hrt] at h; cases h)
  refine own_done (retN X80 hx (t := .byte) hrt (by simp) (hb hby d7_14) hr81) hrun81 hended81 ⟨_, _, rfl, ?_, ⟨_, rfl⟩, hW81, hsame81.mono (by decide) (by decide)⟩
  show Qco_0 Z a1 h0 n0 _ T80.heap _
  rw [e80]
  exact ⟨rfl, N0, rfl⟩
def Qil_0 (Z : State) (a1 : Addr) (h0 : Heap) (n0 : Nat) (v : Option Value) (h : Heap) (L : List Loc) : Prop := v = some (.int (1 : Int32)) ∧ Fr n0 L ∧ h = h0
theorem d28_0 : decode jdk_42_method_154_code 0 = .ok (.getstatic 38, 3) := by decide +kernel
theorem d28_3 : decode jdk_42_method_154_code 3 = .ok (.ifCond .eq 14, 3) := by decide +kernel
theorem d28_6 : decode jdk_42_method_154_code 6 = .ok (.aload_n 0, 1) := by decide +kernel
theorem d28_7 : decode jdk_42_method_154_code 7 = .ok (.getfield 15, 3) := by decide +kernel
theorem d28_10 : decode jdk_42_method_154_code 10 = .ok (.ifCond .ne 7, 3) := by decide +kernel
theorem d28_13 : decode jdk_42_method_154_code 13 = .ok (.iconst 1, 1) := by decide +kernel
theorem d28_14 : decode jdk_42_method_154_code 14 = .ok (.goto 4, 3) := by decide +kernel
theorem d28_18 : decode jdk_42_method_154_code 18 = .ok (.ireturn, 1) := by decide +kernel
set_option maxRecDepth 65536 in
set_option maxHeartbeats 40000000 in
theorem rmil_0 (l : Launch) (Z : State) (a0 : Array Value) (hw : ∀ d ∈ tables_1, d.before a0 Z = true) (ws : List Jvm.Cond) (a1 : Addr) (h0 : Heap) (n0 : Nat) (Z0 : n0 ≤ h0.size) (F_coder_a1 : Fld Z h0 a1 "java/lang/String" "coder" "B" (.int (0 : Int32))) (O0 : own_Old Z n0 h0) (hST : own_ST Z) : own_Met l own_y28 jdk_42_method_154_code 1 (some .boolean) ws ⟨0, 0, 0, 0⟩ #[(.ref a1)] Z h0 (Qil_0 Z a1 h0 n0) := by
  refine own_met (plainFor_of_name pn_java_lang_String) (fun p e s m below meth c s₁ hx hby hml hrt hlk hZ hown hnm X0 e0 es0 => ?_)
  have N0 := Fr.nil n0
  rw [ef_R_1 m a1]
  obtain ⟨ct, sv, hct, hsv, S__assertionsDisabled, S_HI_BYTE_SHIFT, S_LO_BYTE_SHIFT, S_COMPACT_STRINGS, S_SIOOBE_FORMATTER⟩ := id hST
  obtain ⟨T82, X82, e82, st82⟩ := getS2 X0 hx hZ hown (host := "") (Or.inl (own_h hw 40 rfl)) Via.refl e0 (S_COMPACT_STRINGS.ext O0.2) (g := (mkF m 0 #[rv a1] [])) rfl (hb hby d28_0)
  refine own_by st82 ?_
  refine own_gk (XS.ifNo X82.here hx rfl (hb hby d28_3) rfl ((if0 _ _).trans (feq (show ¬ (ct = (0 : Int32)) from hct)).1)) ?_
  refine own_gk (XS.aloadN X82.here hx rfl (hb hby d28_6) rfl rfl) ?_
  obtain ⟨T83, X83, e83, st83⟩ := getF X82 hx hZ hown (host := "") (Or.inl (own_h hw 25 rfl)) Via.refl e82 F_coder_a1 (g := (mkF m 7 #[rv a1] [(.ref a1)])) rfl rfl (hb hby d28_7)
  refine own_by st83 ?_
  refine own_gk (XS.ifNo X83.here hx rfl (hb hby d28_10) rfl ((if0 _ _).trans (teq (by decide : (0 : Int32) = (0 : Int32))).2)) ?_
  show own_Fin _ _ _ _ (T83.setTop (mkF m 13 #[rv a1] []))
  refine own_gk (XS.iconst X83.here hx rfl (hb hby d28_13)) ?_
  refine own_gk (XS.goto X83.here hx rfl (pc0 := 14) (pc' := 18) rfl (hb hby d28_14) (by decide) (by decide)) ?_
  obtain ⟨fs84, hr84, hrun84, hended84, hW84, hsame84⟩ := X83.leave (v := some (.int (1 : Int32))) (fun h => by rw [hrt] at h; cases h)
  refine own_done (retN X83 hx (t := .boolean) hrt (by simp) (hb hby d28_18) hr84) hrun84 hended84 ⟨_, _, rfl, ?_, ⟨_, rfl⟩, hW84, hsame84.mono (by decide) (by decide)⟩
  show Qil_0 Z a1 h0 n0 _ T83.heap _
  rw [e83]
  exact ⟨rfl, N0, rfl⟩
def Qco_1 (Z : State) (a1 : Addr) (h0 : Heap) (n0 : Nat) (v : Option Value) (h : Heap) (L : List Loc) : Prop := v = some (.int (1 : Int32)) ∧ Fr n0 L ∧ h = h0
set_option maxRecDepth 65536 in
set_option maxHeartbeats 40000000 in
theorem rmco_1 (l : Launch) (Z : State) (a0 : Array Value) (hw : ∀ d ∈ tables_1, d.before a0 Z = true) (ws : List Jvm.Cond) (a1 : Addr) (h0 : Heap) (n0 : Nat) (Z0 : n0 ≤ h0.size) (F_coder_a1 : Fld Z h0 a1 "java/lang/String" "coder" "B" (.int (1 : Int32))) (O0 : own_Old Z n0 h0) (hST : own_ST Z) : own_Met l own_y7 jdk_42_method_152_code 1 (some .byte) ws ⟨0, 0, 0, 0⟩ #[(.ref a1)] Z h0 (Qco_1 Z a1 h0 n0) := by
  refine own_met (plainFor_of_name pn_java_lang_String) (fun p e s m below meth c s₁ hx hby hml hrt hlk hZ hown hnm X0 e0 es0 => ?_)
  have N0 := Fr.nil n0
  rw [ef_R_1 m a1]
  obtain ⟨ct, sv, hct, hsv, S__assertionsDisabled, S_HI_BYTE_SHIFT, S_LO_BYTE_SHIFT, S_COMPACT_STRINGS, S_SIOOBE_FORMATTER⟩ := id hST
  obtain ⟨T85, X85, e85, st85⟩ := getS2 X0 hx hZ hown (host := "") (Or.inl (own_h hw 40 rfl)) Via.refl e0 (S_COMPACT_STRINGS.ext O0.2) (g := (mkF m 0 #[rv a1] [])) rfl (hb hby d7_0)
  refine own_by st85 ?_
  refine own_gk (XS.ifNo X85.here hx rfl (hb hby d7_3) rfl ((if0 _ _).trans (feq (show ¬ (ct = (0 : Int32)) from hct)).1)) ?_
  refine own_gk (XS.aloadN X85.here hx rfl (hb hby d7_6) rfl rfl) ?_
  obtain ⟨T86, X86, e86, st86⟩ := getF X85 hx hZ hown (host := "") (Or.inl (own_h hw 25 rfl)) Via.refl e85 F_coder_a1 (g := (mkF m 7 #[rv a1] [(.ref a1)])) rfl rfl (hb hby d7_7)
  refine own_by st86 ?_
  refine own_gk (XS.goto X86.here hx rfl (pc0 := 10) (pc' := 14) rfl (hb hby d7_10) (by decide) (by decide)) ?_
  show own_Fin _ _ _ _ (T86.setTop (mkF m 14 #[rv a1] [(.int (1 : Int32))]))
  obtain ⟨fs87, hr87, hrun87, hended87, hW87, hsame87⟩ := X86.leave (v := some (.int (1 : Int32))) (fun h => by rw [hrt] at h; cases h)
  refine own_done (retN X86 hx (t := .byte) hrt (by simp) (hb hby d7_14) hr87) hrun87 hended87 ⟨_, _, rfl, ?_, ⟨_, rfl⟩, hW87, hsame87.mono (by decide) (by decide)⟩
  show Qco_1 Z a1 h0 n0 _ T86.heap _
  rw [e86]
  exact ⟨rfl, N0, rfl⟩
def Qil_1 (Z : State) (a1 : Addr) (h0 : Heap) (n0 : Nat) (v : Option Value) (h : Heap) (L : List Loc) : Prop := v = some (.int (0 : Int32)) ∧ Fr n0 L ∧ h = h0
theorem d28_17 : decode jdk_42_method_154_code 17 = .ok (.iconst 0, 1) := by decide +kernel
set_option maxRecDepth 65536 in
set_option maxHeartbeats 40000000 in
theorem rmil_1 (l : Launch) (Z : State) (a0 : Array Value) (hw : ∀ d ∈ tables_1, d.before a0 Z = true) (ws : List Jvm.Cond) (a1 : Addr) (h0 : Heap) (n0 : Nat) (Z0 : n0 ≤ h0.size) (F_coder_a1 : Fld Z h0 a1 "java/lang/String" "coder" "B" (.int (1 : Int32))) (O0 : own_Old Z n0 h0) (hST : own_ST Z) : own_Met l own_y28 jdk_42_method_154_code 1 (some .boolean) ws ⟨0, 0, 0, 0⟩ #[(.ref a1)] Z h0 (Qil_1 Z a1 h0 n0) := by
  refine own_met (plainFor_of_name pn_java_lang_String) (fun p e s m below meth c s₁ hx hby hml hrt hlk hZ hown hnm X0 e0 es0 => ?_)
  have N0 := Fr.nil n0
  rw [ef_R_1 m a1]
  obtain ⟨ct, sv, hct, hsv, S__assertionsDisabled, S_HI_BYTE_SHIFT, S_LO_BYTE_SHIFT, S_COMPACT_STRINGS, S_SIOOBE_FORMATTER⟩ := id hST
  obtain ⟨T88, X88, e88, st88⟩ := getS2 X0 hx hZ hown (host := "") (Or.inl (own_h hw 40 rfl)) Via.refl e0 (S_COMPACT_STRINGS.ext O0.2) (g := (mkF m 0 #[rv a1] [])) rfl (hb hby d28_0)
  refine own_by st88 ?_
  refine own_gk (XS.ifNo X88.here hx rfl (hb hby d28_3) rfl ((if0 _ _).trans (feq (show ¬ (ct = (0 : Int32)) from hct)).1)) ?_
  refine own_gk (XS.aloadN X88.here hx rfl (hb hby d28_6) rfl rfl) ?_
  obtain ⟨T89, X89, e89, st89⟩ := getF X88 hx hZ hown (host := "") (Or.inl (own_h hw 25 rfl)) Via.refl e88 F_coder_a1 (g := (mkF m 7 #[rv a1] [(.ref a1)])) rfl rfl (hb hby d28_7)
  refine own_by st89 ?_
  refine own_gk (XS.ifYes X89.here hx rfl (pc0 := 10) (pc' := 17) rfl (hb hby d28_10) rfl ((if0 _ _).trans (feq (by decide : ¬ ((1 : Int32) = (0 : Int32)))).2) (by decide) (by decide)) ?_
  show own_Fin _ _ _ _ (T89.setTop (mkF m 17 #[rv a1] []))
  refine own_gk (XS.iconst X89.here hx rfl (hb hby d28_17)) ?_
  obtain ⟨fs90, hr90, hrun90, hended90, hW90, hsame90⟩ := X89.leave (v := some (.int (0 : Int32))) (fun h => by rw [hrt] at h; cases h)
  refine own_done (retN X89 hx (t := .boolean) hrt (by simp) (hb hby d28_18) hr90) hrun90 hended90 ⟨_, _, rfl, ?_, ⟨_, rfl⟩, hW90, hsame90.mono (by decide) (by decide)⟩
  show Qil_1 Z a1 h0 n0 _ T89.heap _
  rw [e89]
  exact ⟨rfl, N0, rfl⟩
def Qlen (Z : State) (a1 : Addr) (N : Nat) (cs : Nat → Int32) (h0 : Heap) (n0 : Nat) (v : Option Value) (h : Heap) (L : List Loc) : Prop := v = some (.int (Int32.ofNat (N))) ∧ Fr n0 L ∧ h = h0
theorem d6_0 : decode jdk_42_method_54_code 0 = .ok (.aload_n 0, 1) := by decide +kernel
theorem d6_1 : decode jdk_42_method_54_code 1 = .ok (.getfield 9, 3) := by decide +kernel
theorem d6_4 : decode jdk_42_method_54_code 4 = .ok (.arraylength, 1) := by decide +kernel
theorem d6_5 : decode jdk_42_method_54_code 5 = .ok (.aload_n 0, 1) := by decide +kernel
theorem d6_6 : decode jdk_42_method_54_code 6 = .ok (.invokevirtual 335, 3) := by decide +kernel
theorem pd__28__29_B : parseMethodDescriptor "()B" = some ⟨[], some .byte⟩ := by decide +kernel
theorem d6_9 : decode jdk_42_method_54_code 9 = .ok (.ishr, 1) := by decide +kernel
theorem d6_10 : decode jdk_42_method_54_code 10 = .ok (.ireturn, 1) := by decide +kernel
set_option maxRecDepth 65536 in
set_option maxHeartbeats 40000000 in
theorem rmlen (l : Launch) (Z : State) (a0 : Array Value) (hw : ∀ d ∈ tables_1, d.before a0 Z = true) (ws : List Jvm.Cond) (a1 : Addr) (N : Nat) (cs : Nat → Int32) (h0 : Heap) (n0 : Nat) (Z0 : n0 ≤ h0.size) (hS : own_Str Z h0 a1 N cs) (O0 : own_Old Z n0 h0) (hST : own_ST Z) (hN : N ≤ 64) : own_Met l own_y6 jdk_42_method_54_code 1 (some .int) ws ⟨1, 0, 0, 13⟩ #[(.ref a1)] Z h0 (Qlen Z a1 N cs h0 n0) := by
  refine own_met (plainFor_of_name pn_java_lang_String) (fun p e s m below meth c s₁ hx hby hml hrt hlk hZ hown hnm X0 e0 es0 => ?_)
  have N0 := Fr.nil n0
  rw [ef_R_1 m a1]
  obtain ⟨E_a1, v_, kq, Fv_, ⟨FcL, hal, VqL⟩ | ⟨FcU, VqU⟩⟩ := id hS
  · refine own_gk (XS.aloadN X0.here hx rfl (hb hby d6_0) rfl rfl) ?_
    obtain ⟨T91, X91, e91, st91⟩ := getF X0 hx hZ hown (host := "") (Or.inl (own_h hw 24 rfl)) Via.refl e0 Fv_ (g := (mkF m 1 #[rv a1] [(.ref a1)])) rfl rfl (hb hby d6_1)
    refine own_by st91 ?_
    obtain ⟨cl92, Ar92, qa92, Sa92, Na92, Ha92, Ga92⟩ := id VqL
    refine own_by (X91.arraylength hx (by rw [e91]; exact Ar92.1) (State.isArrayOf_alike hZ.alike Ar92.2.1) (g := (mkF m 4 #[rv a1] [(.ref v_)])) rfl rfl (hb hby d6_4)) ?_
    rw [len_of Sa92 Na92]
    refine own_gk (XS.aloadN X91.here hx rfl (hb hby d6_5) rfl rfl) ?_
    show own_Fin _ _ _ _ (T91.setTop (mkF m 6 #[rv a1] [(.ref a1), (.int (Int32.ofNat (N)))]))
    obtain ⟨_, T93, Lc93, X93, hQ93, st93⟩ := own_callV X91 hx hZ E_a1 hown (own_h hw 35 rfl) (own_h hw 36 rfl) (notFace_of_selects (args := #[]) (mvT hZ (own_h hw 38 rfl))) (own_h hw 38 rfl) (own_h hw 37 rfl) (own_h hw 7 rfl) (own_h hw 39 rfl) (by decide) (rmco_0 l Z a0 hw [] a1 h0 n0 Z0 FcL O0 hST) (W := 1) (by decide) (by decide) (g := (mkF m 6 #[rv a1] [(.ref a1), (.int (Int32.ofNat (N)))])) rfl (by rw [hml]; rfl) (argsL := []) (rest := [(.int (Int32.ofNat (N)))]) (lenOf pd__28__29_B rfl) rfl (Nat.le_of_eq rfl) (hb hby d6_6) rfl e91 (by decide) (by decide)
    obtain ⟨rfl, Nq93, e93⟩ := hQ93
    refine own_go st93 ?_
    have N93 := Fr.app N0 Nq93
    refine own_gk (XS.ishr X93.here hx rfl (hb hby d6_9) rfl) ?_
    show own_Fin _ _ _ _ (T93.setTop (mkF m 10 #[rv a1] [(.int ((Int32.ofNat (N)) >>> ((0 : Int32) &&& 31)))]))
    rw [show ((Int32.ofNat (N)) >>> ((0 : Int32) &&& 31)) = Int32.ofNat (N) from (own_shr0 (a := N) (by omega))]
    obtain ⟨fs94, hr94, hrun94, hended94, hW94, hsame94⟩ := X93.leave (v := some (.int (Int32.ofNat (N)))) (fun h => by rw [hrt] at h; cases h)
    refine own_done (own_retI X93 hx hrt (hb hby d6_10) hr94) hrun94 hended94 ⟨_, _, rfl, ?_, ⟨_, rfl⟩, hW94, hsame94.mono (by decide) (by decide)⟩
    show Qlen Z a1 N cs h0 n0 _ T93.heap _
    rw [e93]
    exact ⟨rfl, N93, rfl⟩
  · refine own_gk (XS.aloadN X0.here hx rfl (hb hby d6_0) rfl rfl) ?_
    obtain ⟨T95, X95, e95, st95⟩ := getF X0 hx hZ hown (host := "") (Or.inl (own_h hw 24 rfl)) Via.refl e0 Fv_ (g := (mkF m 1 #[rv a1] [(.ref a1)])) rfl rfl (hb hby d6_1)
    refine own_by st95 ?_
    obtain ⟨cl96, Ar96, qa96, Sa96, Na96, Ha96, Ga96⟩ := id VqU
    refine own_by (X95.arraylength hx (by rw [e95]; exact Ar96.1) (State.isArrayOf_alike hZ.alike Ar96.2.1) (g := (mkF m 4 #[rv a1] [(.ref v_)])) rfl rfl (hb hby d6_4)) ?_
    rw [len_of Sa96 Na96]
    refine own_gk (XS.aloadN X95.here hx rfl (hb hby d6_5) rfl rfl) ?_
    show own_Fin _ _ _ _ (T95.setTop (mkF m 6 #[rv a1] [(.ref a1), (.int (Int32.ofNat (2 * N)))]))
    obtain ⟨_, T97, Lc97, X97, hQ97, st97⟩ := own_callV X95 hx hZ E_a1 hown (own_h hw 35 rfl) (own_h hw 36 rfl) (notFace_of_selects (args := #[]) (mvT hZ (own_h hw 38 rfl))) (own_h hw 38 rfl) (own_h hw 37 rfl) (own_h hw 7 rfl) (own_h hw 39 rfl) (by decide) (rmco_1 l Z a0 hw [] a1 h0 n0 Z0 FcU O0 hST) (W := 1) (by decide) (by decide) (g := (mkF m 6 #[rv a1] [(.ref a1), (.int (Int32.ofNat (2 * N)))])) rfl (by rw [hml]; rfl) (argsL := []) (rest := [(.int (Int32.ofNat (2 * N)))]) (lenOf pd__28__29_B rfl) rfl (Nat.le_of_eq rfl) (hb hby d6_6) rfl e95 (by decide) (by decide)
    obtain ⟨rfl, Nq97, e97⟩ := hQ97
    refine own_go st97 ?_
    have N97 := Fr.app N0 Nq97
    refine own_gk (XS.ishr X97.here hx rfl (hb hby d6_9) rfl) ?_
    show own_Fin _ _ _ _ (T97.setTop (mkF m 10 #[rv a1] [(.int ((Int32.ofNat (2 * N)) >>> ((1 : Int32) &&& 31)))]))
    rw [show ((Int32.ofNat (2 * N)) >>> ((1 : Int32) &&& 31)) = Int32.ofNat (N) from (own_shrd (a := N) (by omega))]
    obtain ⟨fs98, hr98, hrun98, hended98, hW98, hsame98⟩ := X97.leave (v := some (.int (Int32.ofNat (N)))) (fun h => by rw [hrt] at h; cases h)
    refine own_done (own_retI X97 hx hrt (hb hby d6_10) hr98) hrun98 hended98 ⟨_, _, rfl, ?_, ⟨_, rfl⟩, hW98, hsame98.mono (by decide) (by decide)⟩
    show Qlen Z a1 N cs h0 n0 _ T97.heap _
    rw [e97]
    exact ⟨rfl, N97, rfl⟩
def QlenL (Z : State) (a1 : Addr) (v : Addr) (k : ClassId) (f : Nat → Int32) (N : Nat) (h0 : Heap) (n0 : Nat) (v : Option Value) (h : Heap) (L : List Loc) : Prop := v = some (.int (Int32.ofNat (N))) ∧ Fr n0 L ∧ h = h0
set_option maxRecDepth 65536 in
set_option maxHeartbeats 40000000 in
theorem rmlenL (l : Launch) (Z : State) (a0 : Array Value) (hw : ∀ d ∈ tables_1, d.before a0 Z = true) (ws : List Jvm.Cond) (a1 : Addr) (v : Addr) (k : ClassId) (f : Nat → Int32) (N : Nat) (h0 : Heap) (n0 : Nat) (Z0 : n0 ≤ h0.size) (E_a1 : Exa Z h0 a1 "java/lang/String") (F_value_a1 : Fld Z h0 a1 "java/lang/String" "value" "[B" (.ref v)) (F_coder_a1 : Fld Z h0 a1 "java/lang/String" "coder" "B" (.int (0 : Int32))) (V_v : Arv Z h0 v k .byte (Int32.ofNat (N)) (List.map Value.int (own_R f N)) (.int (0 : Int32))) (O0 : own_Old Z n0 h0) (hST : own_ST Z) (hN : N ≤ 64) : own_Met l own_y6 jdk_42_method_54_code 1 (some .int) ws ⟨1, 0, 0, 13⟩ #[(.ref a1)] Z h0 (QlenL Z a1 v k f N h0 n0) := by
  refine own_met (plainFor_of_name pn_java_lang_String) (fun p e s m below meth c s₁ hx hby hml hrt hlk hZ hown hnm X0 e0 es0 => ?_)
  have N0 := Fr.nil n0
  rw [ef_R_1 m a1]
  refine own_gk (XS.aloadN X0.here hx rfl (hb hby d6_0) rfl rfl) ?_
  obtain ⟨T99, X99, e99, st99⟩ := getF X0 hx hZ hown (host := "") (Or.inl (own_h hw 24 rfl)) Via.refl e0 F_value_a1 (g := (mkF m 1 #[rv a1] [(.ref a1)])) rfl rfl (hb hby d6_1)
  refine own_by st99 ?_
  obtain ⟨cl100, Ar100, qa100, Sa100, Na100, Ha100, Ga100⟩ := id V_v
  refine own_by (X99.arraylength hx (by rw [e99]; exact Ar100.1) (State.isArrayOf_alike hZ.alike Ar100.2.1) (g := (mkF m 4 #[rv a1] [(.ref v)])) rfl rfl (hb hby d6_4)) ?_
  rw [len_of Sa100 Na100]
  refine own_gk (XS.aloadN X99.here hx rfl (hb hby d6_5) rfl rfl) ?_
  obtain ⟨_, T101, Lc101, X101, hQ101, st101⟩ := own_callV X99 hx hZ E_a1 hown (own_h hw 35 rfl) (own_h hw 36 rfl) (notFace_of_selects (args := #[]) (mvT hZ (own_h hw 38 rfl))) (own_h hw 38 rfl) (own_h hw 37 rfl) (own_h hw 7 rfl) (own_h hw 39 rfl) (by decide) (rmco_0 l Z a0 hw [] a1 h0 n0 Z0 F_coder_a1 O0 hST) (W := 1) (by decide) (by decide) (g := (mkF m 6 #[rv a1] [(.ref a1), (.int (Int32.ofNat (N)))])) rfl (by rw [hml]; rfl) (argsL := []) (rest := [(.int (Int32.ofNat (N)))]) (lenOf pd__28__29_B rfl) rfl (Nat.le_of_eq rfl) (hb hby d6_6) rfl e99 (by decide) (by decide)
  obtain ⟨rfl, Nq101, e101⟩ := hQ101
  refine own_go st101 ?_
  have N101 := Fr.app N0 Nq101
  show own_Fin _ _ _ _ (T101.setTop (mkF m 9 #[rv a1] [(.int (0 : Int32)), (.int (Int32.ofNat (N)))]))
  refine own_gk (XS.ishr X101.here hx rfl (hb hby d6_9) rfl) ?_
  show own_Fin _ _ _ _ (T101.setTop (mkF m 10 #[rv a1] [(.int ((Int32.ofNat (N)) >>> ((0 : Int32) &&& 31)))]))
  rw [show ((Int32.ofNat (N)) >>> ((0 : Int32) &&& 31)) = Int32.ofNat (N) from (own_shr0 (a := N) (by omega))]
  obtain ⟨fs102, hr102, hrun102, hended102, hW102, hsame102⟩ := X101.leave (v := some (.int (Int32.ofNat (N)))) (fun h => by rw [hrt] at h; cases h)
  refine own_done (own_retI X101 hx hrt (hb hby d6_10) hr102) hrun102 hended102 ⟨_, _, rfl, ?_, ⟨_, rfl⟩, hW102, hsame102.mono (by decide) (by decide)⟩
  show QlenL Z a1 v k f N h0 n0 _ T101.heap _
  rw [e101]
  exact ⟨rfl, N101, rfl⟩
def QlenU (Z : State) (a1 : Addr) (v : Addr) (k : ClassId) (f : Nat → Int32) (N : Nat) (h0 : Heap) (n0 : Nat) (v : Option Value) (h : Heap) (L : List Loc) : Prop := v = some (.int (Int32.ofNat (N))) ∧ Fr n0 L ∧ h = h0
set_option maxRecDepth 65536 in
set_option maxHeartbeats 40000000 in
theorem rmlenU (l : Launch) (Z : State) (a0 : Array Value) (hw : ∀ d ∈ tables_1, d.before a0 Z = true) (ws : List Jvm.Cond) (a1 : Addr) (v : Addr) (k : ClassId) (f : Nat → Int32) (N : Nat) (h0 : Heap) (n0 : Nat) (Z0 : n0 ≤ h0.size) (E_a1 : Exa Z h0 a1 "java/lang/String") (F_value_a1 : Fld Z h0 a1 "java/lang/String" "value" "[B" (.ref v)) (F_coder_a1 : Fld Z h0 a1 "java/lang/String" "coder" "B" (.int (1 : Int32))) (V_v : Arv Z h0 v k .byte (Int32.ofNat (2 * N)) (List.map Value.int (own_R f (2 * N))) (.int (0 : Int32))) (O0 : own_Old Z n0 h0) (hST : own_ST Z) (hN : N ≤ 64) : own_Met l own_y6 jdk_42_method_54_code 1 (some .int) ws ⟨1, 0, 0, 13⟩ #[(.ref a1)] Z h0 (QlenU Z a1 v k f N h0 n0) := by
  refine own_met (plainFor_of_name pn_java_lang_String) (fun p e s m below meth c s₁ hx hby hml hrt hlk hZ hown hnm X0 e0 es0 => ?_)
  have N0 := Fr.nil n0
  rw [ef_R_1 m a1]
  refine own_gk (XS.aloadN X0.here hx rfl (hb hby d6_0) rfl rfl) ?_
  obtain ⟨T103, X103, e103, st103⟩ := getF X0 hx hZ hown (host := "") (Or.inl (own_h hw 24 rfl)) Via.refl e0 F_value_a1 (g := (mkF m 1 #[rv a1] [(.ref a1)])) rfl rfl (hb hby d6_1)
  refine own_by st103 ?_
  obtain ⟨cl104, Ar104, qa104, Sa104, Na104, Ha104, Ga104⟩ := id V_v
  refine own_by (X103.arraylength hx (by rw [e103]; exact Ar104.1) (State.isArrayOf_alike hZ.alike Ar104.2.1) (g := (mkF m 4 #[rv a1] [(.ref v)])) rfl rfl (hb hby d6_4)) ?_
  rw [len_of Sa104 Na104]
  refine own_gk (XS.aloadN X103.here hx rfl (hb hby d6_5) rfl rfl) ?_
  obtain ⟨_, T105, Lc105, X105, hQ105, st105⟩ := own_callV X103 hx hZ E_a1 hown (own_h hw 35 rfl) (own_h hw 36 rfl) (notFace_of_selects (args := #[]) (mvT hZ (own_h hw 38 rfl))) (own_h hw 38 rfl) (own_h hw 37 rfl) (own_h hw 7 rfl) (own_h hw 39 rfl) (by decide) (rmco_1 l Z a0 hw [] a1 h0 n0 Z0 F_coder_a1 O0 hST) (W := 1) (by decide) (by decide) (g := (mkF m 6 #[rv a1] [(.ref a1), (.int (Int32.ofNat (2 * N)))])) rfl (by rw [hml]; rfl) (argsL := []) (rest := [(.int (Int32.ofNat (2 * N)))]) (lenOf pd__28__29_B rfl) rfl (Nat.le_of_eq rfl) (hb hby d6_6) rfl e103 (by decide) (by decide)
  obtain ⟨rfl, Nq105, e105⟩ := hQ105
  refine own_go st105 ?_
  have N105 := Fr.app N0 Nq105
  show own_Fin _ _ _ _ (T105.setTop (mkF m 9 #[rv a1] [(.int (1 : Int32)), (.int (Int32.ofNat (2 * N)))]))
  refine own_gk (XS.ishr X105.here hx rfl (hb hby d6_9) rfl) ?_
  show own_Fin _ _ _ _ (T105.setTop (mkF m 10 #[rv a1] [(.int ((Int32.ofNat (2 * N)) >>> ((1 : Int32) &&& 31)))]))
  rw [show ((Int32.ofNat (2 * N)) >>> ((1 : Int32) &&& 31)) = Int32.ofNat (N) from (own_shrd (a := N) (by omega))]
  obtain ⟨fs106, hr106, hrun106, hended106, hW106, hsame106⟩ := X105.leave (v := some (.int (Int32.ofNat (N)))) (fun h => by rw [hrt] at h; cases h)
  refine own_done (own_retI X105 hx hrt (hb hby d6_10) hr106) hrun106 hended106 ⟨_, _, rfl, ?_, ⟨_, rfl⟩, hW106, hsame106.mono (by decide) (by decide)⟩
  show QlenU Z a1 v k f N h0 n0 _ T105.heap _
  rw [e105]
  exact ⟨rfl, N105, rfl⟩
theorem pn_jdk_internal_util_Preconditions : plainName "jdk/internal/util/Preconditions" = true := by first | (simp [plainName, overriddenIn]; done) | decide +kernel
theorem ef_IIR_3 (m : MethodId) (x0 : Int32) (x1 : Int32) (x2 : Addr) : entryFrame m #[(.int x0), (.int x1), (.ref x2)] 3 = mkF m 0 #[.val (.int x0), .val (.int x1), .val (.ref x2)] [] := by first | (simp [entryFrame, mkF, argsToLocals, Value.category]; done) | rfl
def Qpci (Z : State) (p1 : Int32) (p2 : Int32) (a3 : Addr) (h0 : Heap) (n0 : Nat) (v : Option Value) (h : Heap) (L : List Loc) : Prop := v = some (.int p1) ∧ Fr n0 L ∧ h = h0
theorem d31_0 : decode jdk_41_method_11_code 0 = .ok (.iload_n 0, 1) := by decide +kernel
theorem d31_1 : decode jdk_41_method_11_code 1 = .ok (.ifCond .lt 8, 3) := by decide +kernel
theorem d31_4 : decode jdk_41_method_11_code 4 = .ok (.iload_n 0, 1) := by decide +kernel
theorem d31_5 : decode jdk_41_method_11_code 5 = .ok (.iload_n 1, 1) := by decide +kernel
theorem d31_6 : decode jdk_41_method_11_code 6 = .ok (.if_icmp .lt 10, 3) := by decide +kernel
theorem d31_16 : decode jdk_41_method_11_code 16 = .ok (.iload_n 0, 1) := by decide +kernel
theorem d31_17 : decode jdk_41_method_11_code 17 = .ok (.ireturn, 1) := by decide +kernel
set_option maxRecDepth 65536 in
set_option maxHeartbeats 40000000 in
theorem rmpci (l : Launch) (Z : State) (a0 : Array Value) (hw : ∀ d ∈ tables_1, d.before a0 Z = true) (ws : List Jvm.Cond) (p1 : Int32) (p2 : Int32) (a3 : Addr) (h0 : Heap) (n0 : Nat) (Z0 : n0 ≤ h0.size) (hi0 : ¬ p1 < (0 : Int32)) (hi1 : p1 < p2) : own_Met l own_y31 jdk_41_method_11_code 3 (some .int) ws ⟨0, 0, 0, 0⟩ #[(.int p1), (.int p2), (.ref a3)] Z h0 (Qpci Z p1 p2 a3 h0 n0) := by
  refine own_met (plainFor_of_name pn_jdk_internal_util_Preconditions) (fun p e s m below meth c s₁ hx hby hml hrt hlk hZ hown hnm X0 e0 es0 => ?_)
  have N0 := Fr.nil n0
  rw [ef_IIR_3 m p1 p2 a3]
  refine own_gk (XS.iloadN X0.here hx rfl (hb hby d31_0) rfl) ?_
  refine own_gk (XS.ifNo X0.here hx rfl (hb hby d31_1) rfl ((if0 _ _).trans (flt (show ¬ (p1 < (0 : Int32)) from hi0)).1)) ?_
  refine own_gk (XS.iloadN X0.here hx rfl (hb hby d31_4) rfl) ?_
  refine own_gk (XS.iloadN X0.here hx rfl (hb hby d31_5) rfl) ?_
  refine own_gk (XS.icmpYes X0.here hx rfl (pc0 := 6) (pc' := 16) rfl (hb hby d31_6) rfl (tlt (show p1 < p2 from hi1)).1 (by decide) (by decide)) ?_
  show own_Fin _ _ _ _ (s₁.setTop (mkF m 16 #[iv p1, iv p2, rv a3] []))
  refine own_gk (XS.iloadN X0.here hx rfl (hb hby d31_16) rfl) ?_
  obtain ⟨fs107, hr107, hrun107, hended107, hW107, hsame107⟩ := X0.leave (v := some (.int p1)) (fun h => by rw [hrt] at h; cases h)
  refine own_done (own_retI X0 hx hrt (hb hby d31_17) hr107) hrun107 hended107 ⟨_, _, rfl, ?_, ⟨_, rfl⟩, hW107, hsame107.mono (by decide) (by decide)⟩
  show Qpci Z p1 p2 a3 h0 n0 _ s₁.heap _
  rw [e0]
  exact ⟨rfl, N0, rfl⟩
theorem ef_II0_3 (m : MethodId) (x0 : Int32) (x1 : Int32) : entryFrame m #[(.int x0), (.int x1), .null] 3 = mkF m 0 #[.val (.int x0), .val (.int x1), .val .null] [] := by first | (simp [entryFrame, mkF, argsToLocals, Value.category]; done) | rfl
def Qpcn (Z : State) (p1 : Int32) (p2 : Int32) (h0 : Heap) (n0 : Nat) (v : Option Value) (h : Heap) (L : List Loc) : Prop := v = some (.int p1) ∧ Fr n0 L ∧ h = h0
set_option maxRecDepth 65536 in
set_option maxHeartbeats 40000000 in
theorem rmpcn (l : Launch) (Z : State) (a0 : Array Value) (hw : ∀ d ∈ tables_1, d.before a0 Z = true) (ws : List Jvm.Cond) (p1 : Int32) (p2 : Int32) (h0 : Heap) (n0 : Nat) (Z0 : n0 ≤ h0.size) (hi0 : ¬ p1 < (0 : Int32)) (hi1 : p1 < p2) : own_Met l own_y31 jdk_41_method_11_code 3 (some .int) ws ⟨0, 0, 0, 0⟩ #[(.int p1), (.int p2), .null] Z h0 (Qpcn Z p1 p2 h0 n0) := by
  refine own_met (plainFor_of_name pn_jdk_internal_util_Preconditions) (fun p e s m below meth c s₁ hx hby hml hrt hlk hZ hown hnm X0 e0 es0 => ?_)
  have N0 := Fr.nil n0
  rw [ef_II0_3 m p1 p2]
  refine own_gk (XS.iloadN X0.here hx rfl (hb hby d31_0) rfl) ?_
  refine own_gk (XS.ifNo X0.here hx rfl (hb hby d31_1) rfl ((if0 _ _).trans (flt (show ¬ (p1 < (0 : Int32)) from hi0)).1)) ?_
  refine own_gk (XS.iloadN X0.here hx rfl (hb hby d31_4) rfl) ?_
  refine own_gk (XS.iloadN X0.here hx rfl (hb hby d31_5) rfl) ?_
  refine own_gk (XS.icmpYes X0.here hx rfl (pc0 := 6) (pc' := 16) rfl (hb hby d31_6) rfl (tlt (show p1 < p2 from hi1)).1 (by decide) (by decide)) ?_
  show own_Fin _ _ _ _ (s₁.setTop (mkF m 16 #[iv p1, iv p2, .val .null] []))
  refine own_gk (XS.iloadN X0.here hx rfl (hb hby d31_16) rfl) ?_
  obtain ⟨fs108, hr108, hrun108, hended108, hW108, hsame108⟩ := X0.leave (v := some (.int p1)) (fun h => by rw [hrt] at h; cases h)
  refine own_done (own_retI X0 hx hrt (hb hby d31_17) hr108) hrun108 hended108 ⟨_, _, rfl, ?_, ⟨_, rfl⟩, hW108, hsame108.mono (by decide) (by decide)⟩
  show Qpcn Z p1 p2 h0 n0 _ s₁.heap _
  rw [e0]
  exact ⟨rfl, N0, rfl⟩
theorem ef_II_2 (m : MethodId) (x0 : Int32) (x1 : Int32) : entryFrame m #[(.int x0), (.int x1)] 2 = mkF m 0 #[.val (.int x0), .val (.int x1)] [] := by first | (simp [entryFrame, mkF, argsToLocals, Value.category]; done) | rfl
def Qsci (Z : State) (p1 : Int32) (p2 : Int32) (h0 : Heap) (n0 : Nat) (v : Option Value) (h : Heap) (L : List Loc) : Prop := v = none ∧ Fr n0 L ∧ h = h0
theorem d30_0 : decode jdk_42_method_155_code 0 = .ok (.iload_n 0, 1) := by decide +kernel
theorem d30_1 : decode jdk_42_method_155_code 1 = .ok (.iload_n 1, 1) := by decide +kernel
theorem d30_2 : decode jdk_42_method_155_code 2 = .ok (.getstatic 1053, 3) := by decide +kernel
theorem d30_5 : decode jdk_42_method_155_code 5 = .ok (.invokestatic 1059, 3) := by decide +kernel
theorem pd__28_IILjava_2f_util_2f_function_2f_BiFunction_3b__29_I : parseMethodDescriptor "(IILjava/util/function/BiFunction;)I" = some ⟨[.int, .int, (.object "java/util/function/BiFunction")], some .int⟩ := by decide +kernel
theorem d30_8 : decode jdk_42_method_155_code 8 = .ok (.pop, 1) := by decide +kernel
theorem d30_9 : decode jdk_42_method_155_code 9 = .ok (.return_, 1) := by decide +kernel
set_option maxRecDepth 65536 in
set_option maxHeartbeats 40000000 in
theorem rmsci (l : Launch) (Z : State) (a0 : Array Value) (hw : ∀ d ∈ tables_1, d.before a0 Z = true) (ws : List Jvm.Cond) (p1 : Int32) (p2 : Int32) (h0 : Heap) (n0 : Nat) (Z0 : n0 ≤ h0.size) (hi0 : ¬ p1 < (0 : Int32)) (hi1 : p1 < p2) (O0 : own_Old Z n0 h0) (hST : own_ST Z) : own_Met l own_y30 jdk_42_method_155_code 2 none ws ⟨1, 0, 0, 14⟩ #[(.int p1), (.int p2)] Z h0 (Qsci Z p1 p2 h0 n0) := by
  refine own_met (plainFor_of_name pn_java_lang_String) (fun p e s m below meth c s₁ hx hby hml hrt hlk hZ hown hnm X0 e0 es0 => ?_)
  have N0 := Fr.nil n0
  rw [ef_II_2 m p1 p2]
  obtain ⟨ct, sv, hct, hsv, S__assertionsDisabled, S_HI_BYTE_SHIFT, S_LO_BYTE_SHIFT, S_COMPACT_STRINGS, S_SIOOBE_FORMATTER⟩ := id hST
  rcases hsv with rfl | ⟨sf, rfl⟩
  · refine own_gk (XS.iloadN X0.here hx rfl (hb hby d30_0) rfl) ?_
    refine own_gk (XS.iloadN X0.here hx rfl (hb hby d30_1) rfl) ?_
    obtain ⟨T109, X109, e109, st109⟩ := getS2 X0 hx hZ hown (host := "") (Or.inl (own_h hw 162 rfl)) Via.refl e0 (S_SIOOBE_FORMATTER.ext O0.2) (g := (mkF m 2 #[iv p1, iv p2] [(.int p2), (.int p1)])) rfl (hb hby d30_2)
    refine own_by st109 ?_
    obtain ⟨_, T110, Lc110, X110, hQ110, st110⟩ := own_callS X109 hx hZ hown (own_h hw 164 rfl) (own_h hw 165 rfl) (own_h hw 163 rfl) (own_h hw 166 rfl) (by decide) (rmpcn l Z a0 hw [] p1 p2 h0 n0 Z0 hi0 hi1) (W := 0) (by decide) (by decide) (g := (mkF m 5 #[iv p1, iv p2] [.null, (.int p2), (.int p1)])) rfl (by rw [hml]; rfl) (argsL := [(.int p1), (.int p2), .null]) (rest := []) (lenOf pd__28_IILjava_2f_util_2f_function_2f_BiFunction_3b__29_I rfl) rfl (Nat.le_of_eq rfl) (hb hby d30_5) rfl e109 (by decide) (by decide)
    obtain ⟨rfl, Nq110, e110⟩ := hQ110
    refine own_go st110 ?_
    have N110 := Fr.app N0 Nq110
    show own_Fin _ _ _ _ (T110.setTop (mkF m 8 #[iv p1, iv p2] [(.int p1)]))
    refine own_gk (XS.pop X110.here hx rfl (hb hby d30_8) rfl rfl) ?_
    obtain ⟨fs111, hr111, hrun111, hended111, hW111, hsame111⟩ := X110.leave (v := none) (fun _ => rfl)
    refine own_done (X110.returnOut hx hrt (hb hby d30_9) hr111) hrun111 hended111 ⟨_, _, rfl, ?_, ⟨_, rfl⟩, hW111, hsame111.mono (by decide) (by decide)⟩
    show Qsci Z p1 p2 h0 n0 _ T110.heap _
    rw [e110]
    exact ⟨rfl, N110, rfl⟩
  · refine own_gk (XS.iloadN X0.here hx rfl (hb hby d30_0) rfl) ?_
    refine own_gk (XS.iloadN X0.here hx rfl (hb hby d30_1) rfl) ?_
    obtain ⟨T112, X112, e112, st112⟩ := getS2 X0 hx hZ hown (host := "") (Or.inl (own_h hw 162 rfl)) Via.refl e0 (S_SIOOBE_FORMATTER.ext O0.2) (g := (mkF m 2 #[iv p1, iv p2] [(.int p2), (.int p1)])) rfl (hb hby d30_2)
    refine own_by st112 ?_
    obtain ⟨_, T113, Lc113, X113, hQ113, st113⟩ := own_callS X112 hx hZ hown (own_h hw 164 rfl) (own_h hw 165 rfl) (own_h hw 163 rfl) (own_h hw 166 rfl) (by decide) (rmpci l Z a0 hw [] p1 p2 sf h0 n0 Z0 hi0 hi1) (W := 0) (by decide) (by decide) (g := (mkF m 5 #[iv p1, iv p2] [(.ref sf), (.int p2), (.int p1)])) rfl (by rw [hml]; rfl) (argsL := [(.int p1), (.int p2), (.ref sf)]) (rest := []) (lenOf pd__28_IILjava_2f_util_2f_function_2f_BiFunction_3b__29_I rfl) rfl (Nat.le_of_eq rfl) (hb hby d30_5) rfl e112 (by decide) (by decide)
    obtain ⟨rfl, Nq113, e113⟩ := hQ113
    refine own_go st113 ?_
    have N113 := Fr.app N0 Nq113
    show own_Fin _ _ _ _ (T113.setTop (mkF m 8 #[iv p1, iv p2] [(.int p1)]))
    refine own_gk (XS.pop X113.here hx rfl (hb hby d30_8) rfl rfl) ?_
    obtain ⟨fs114, hr114, hrun114, hended114, hW114, hsame114⟩ := X113.leave (v := none) (fun _ => rfl)
    refine own_done (X113.returnOut hx hrt (hb hby d30_9) hr114) hrun114 hended114 ⟨_, _, rfl, ?_, ⟨_, rfl⟩, hW114, hsame114.mono (by decide) (by decide)⟩
    show Qsci Z p1 p2 h0 n0 _ T113.heap _
    rw [e113]
    exact ⟨rfl, N113, rfl⟩
theorem pn_java_lang_StringLatin1 : plainName "java/lang/StringLatin1" = true := by first | (simp [plainName, overriddenIn]; done) | decide +kernel
def Qlch (Z : State) (a1 : Addr) (k : ClassId) (i : Nat) (N : Nat) (cs : Nat → Int32) (h0 : Heap) (n0 : Nat) (v : Option Value) (h : Heap) (L : List Loc) : Prop := v = some (.int (cs i)) ∧ Fr n0 L ∧ h = h0
theorem d29_0 : decode jdk_43_method_2_code 0 = .ok (.iload_n 1, 1) := by decide +kernel
theorem d29_1 : decode jdk_43_method_2_code 1 = .ok (.aload_n 0, 1) := by decide +kernel
theorem d29_2 : decode jdk_43_method_2_code 2 = .ok (.arraylength, 1) := by decide +kernel
theorem d29_3 : decode jdk_43_method_2_code 3 = .ok (.invokestatic 9, 3) := by decide +kernel
theorem pd__28_II_29_V : parseMethodDescriptor "(II)V" = some ⟨[.int, .int], none⟩ := by decide +kernel
theorem d29_6 : decode jdk_43_method_2_code 6 = .ok (.aload_n 0, 1) := by decide +kernel
theorem d29_7 : decode jdk_43_method_2_code 7 = .ok (.iload_n 1, 1) := by decide +kernel
theorem d29_8 : decode jdk_43_method_2_code 8 = .ok (.baload, 1) := by decide +kernel
theorem d29_9 : decode jdk_43_method_2_code 9 = .ok (.sipush 255, 3) := by decide +kernel
theorem d29_12 : decode jdk_43_method_2_code 12 = .ok (.iand, 1) := by decide +kernel
theorem d29_13 : decode jdk_43_method_2_code 13 = .ok (.i2c, 1) := by decide +kernel
theorem d29_14 : decode jdk_43_method_2_code 14 = .ok (.ireturn, 1) := by decide +kernel
set_option maxRecDepth 65536 in
set_option maxHeartbeats 40000000 in
theorem rmlch (l : Launch) (Z : State) (a0 : Array Value) (hw : ∀ d ∈ tables_1, d.before a0 Z = true) (ws : List Jvm.Cond) (a1 : Addr) (k : ClassId) (i : Nat) (N : Nat) (cs : Nat → Int32) (h0 : Heap) (n0 : Nat) (Z0 : n0 ≤ h0.size) (V_a1 : Arv Z h0 a1 k .byte (Int32.ofNat (N)) (List.map Value.int (own_R (own_lo cs) N)) (.int (0 : Int32))) (O0 : own_Old Z n0 h0) (hST : own_ST Z) (hN : N ≤ 64) (hiN : i < N) (hch : ∀ i, own_ch (cs i)) (hal : ∀ i, i < N → ¬ (255 : Int32) < cs i) : own_Met l own_y29 jdk_43_method_2_code 2 (some .char) ws ⟨2, 0, 0, 27⟩ #[(.ref a1), (.int (Int32.ofNat (i)))] Z h0 (Qlch Z a1 k i N cs h0 n0) := by
  refine own_met (plainFor_of_name pn_java_lang_StringLatin1) (fun p e s m below meth c s₁ hx hby hml hrt hlk hZ hown hnm X0 e0 es0 => ?_)
  have N0 := Fr.nil n0
  rw [ef_RI_2 m a1 (Int32.ofNat (i))]
  refine own_gk (XS.iloadN X0.here hx rfl (hb hby d29_0) rfl) ?_
  refine own_gk (XS.aloadN X0.here hx rfl (hb hby d29_1) rfl rfl) ?_
  obtain ⟨cl115, Ar115, qa115, Sa115, Na115, Ha115, Ga115⟩ := id V_a1
  refine own_by (X0.arraylength hx (by rw [e0]; exact Ar115.1) (State.isArrayOf_alike hZ.alike Ar115.2.1) (g := (mkF m 2 #[rv a1, iv (Int32.ofNat (i))] [(.ref a1), (.int (Int32.ofNat (i)))])) rfl rfl (hb hby d29_2)) ?_
  rw [len_of Sa115 Na115]
  obtain ⟨_, T116, Lc116, X116, hQ116, st116⟩ := own_callS X0 hx hZ hown (own_h hw 159 rfl) (own_h hw 160 rfl) (own_h hw 7 rfl) (own_h hw 161 rfl) (by decide) (rmsci l Z a0 hw [] (Int32.ofNat (i)) (Int32.ofNat (N)) h0 n0 Z0 (own_nn (a := i) (by omega)) ((own_ltN (a := i) (b := N) (by omega) (by omega)).mpr (by omega)) O0 hST) (W := 0) (by decide) (by decide) (g := (mkF m 3 #[rv a1, iv (Int32.ofNat (i))] [(.int (Int32.ofNat (N))), (.int (Int32.ofNat (i)))])) rfl (by rw [hml]; rfl) (argsL := [(.int (Int32.ofNat (i))), (.int (Int32.ofNat (N)))]) (rest := []) (lenOf pd__28_II_29_V rfl) rfl (Nat.le_of_eq rfl) (hb hby d29_3) rfl e0 (by decide) (by decide)
  obtain ⟨rfl, Nq116, e116⟩ := hQ116
  refine own_go st116 ?_
  have N116 := Fr.app N0 Nq116
  refine own_gk (XS.aloadN X116.here hx rfl (hb hby d29_6) rfl rfl) ?_
  show own_Fin _ _ _ _ (T116.setTop (mkF m 7 #[rv a1, iv (Int32.ofNat (i))] [(.ref a1)]))
  refine own_gk (XS.iloadN X116.here hx rfl (hb hby d29_7) rfl) ?_
  obtain ⟨cl117, Ar117, qa117, Sa117, Na117, Ha117, Ga117⟩ := id V_a1
  have hin117 : ¬ ((Int32.ofNat (i)) < 0 ∨ cl117.slots.size ≤ ((Int32.ofNat (i))).toNatClampNeg) := inb_of Sa117 (own_inb (i := i) (n := N) (by omega) (by omega))
  have hat117 : cl117.slots[((Int32.ofNat (i))).toNatClampNeg]? = some (.int ((own_lo cs) i)) := Has.at Ha117 hin117 (own_getV (i := i) (n := N) (by omega) (by omega))
  refine own_by (X116.baloadBytes hx (j := (Int32.ofNat (i))) (v := (.int ((own_lo cs) i))) (by rw [e116]; exact Ar117.1) (State.isArrayOf_alike hZ.alike Ar117.2.1) Ar117.2.2 hin117 hat117 (g := (mkF m 8 #[rv a1, iv (Int32.ofNat (i))] [(.int (Int32.ofNat (i))), (.ref a1)])) rfl rfl (hb hby d29_8)) ?_
  refine own_gk (XS.sipush X116.here hx rfl (hb hby d29_9)) ?_
  refine own_gk (XS.iand X116.here hx rfl (hb hby d29_12) rfl) ?_
  refine own_gk (XS.i2c X116.here hx rfl (hb hby d29_13) rfl) ?_
  show own_Fin _ _ _ _ (T116.setTop (mkF m 14 #[rv a1, iv (Int32.ofNat (i))] [(.int ((((own_lo cs) i) &&& (255 : Int32)).toUInt32.toUInt16.toUInt32.toInt32))]))
  obtain ⟨fs118, hr118, hrun118, hended118, hW118, hsame118⟩ := X116.leave (v := some (.int (nar .char ((((own_lo cs) i) &&& (255 : Int32)).toUInt32.toUInt16.toUInt32.toInt32)))) (fun h => by rw [hrt] at h; cases h)
  refine own_done (retN X116 hx (t := .char) hrt (by simp) (hb hby d29_14) hr118) hrun118 hended118 ⟨_, _, rfl, ?_, ⟨_, rfl⟩, hW118, hsame118.mono (by decide) (by decide)⟩
  show Qlch Z a1 k i N cs h0 n0 _ T116.heap _
  rw [e116]
  exact ⟨(congrArg (fun z => some (Value.int z)) (own_latc (hch i) (hal i hiN))), N116, rfl⟩
def Qul (Z : State) (a1 : Addr) (k : ClassId) (N : Nat) (f : Nat → Int32) (h0 : Heap) (n0 : Nat) (v : Option Value) (h : Heap) (L : List Loc) : Prop := v = some (.int (Int32.ofNat (N))) ∧ Fr n0 L ∧ h = h0
theorem d53_0 : decode jdk_52_method_6_code 0 = .ok (.aload_n 0, 1) := by decide +kernel
theorem d53_1 : decode jdk_52_method_6_code 1 = .ok (.arraylength, 1) := by decide +kernel
theorem d53_2 : decode jdk_52_method_6_code 2 = .ok (.iconst 1, 1) := by decide +kernel
theorem d53_3 : decode jdk_52_method_6_code 3 = .ok (.ishr, 1) := by decide +kernel
theorem d53_4 : decode jdk_52_method_6_code 4 = .ok (.ireturn, 1) := by decide +kernel
set_option maxRecDepth 65536 in
set_option maxHeartbeats 40000000 in
theorem rmul (l : Launch) (Z : State) (a0 : Array Value) (hw : ∀ d ∈ tables_1, d.before a0 Z = true) (ws : List Jvm.Cond) (a1 : Addr) (k : ClassId) (N : Nat) (f : Nat → Int32) (h0 : Heap) (n0 : Nat) (Z0 : n0 ≤ h0.size) (V_a1 : Arv Z h0 a1 k .byte (Int32.ofNat (2 * N)) (List.map Value.int (own_R f (2 * N))) (.int (0 : Int32))) (hN : N ≤ 128) : own_Met l own_y53 jdk_52_method_6_code 1 (some .int) ws ⟨0, 0, 0, 0⟩ #[(.ref a1)] Z h0 (Qul Z a1 k N f h0 n0) := by
  refine own_met (plainFor_of_name pn_java_lang_StringUTF16) (fun p e s m below meth c s₁ hx hby hml hrt hlk hZ hown hnm X0 e0 es0 => ?_)
  have N0 := Fr.nil n0
  rw [ef_R_1 m a1]
  refine own_gk (XS.aloadN X0.here hx rfl (hb hby d53_0) rfl rfl) ?_
  obtain ⟨cl119, Ar119, qa119, Sa119, Na119, Ha119, Ga119⟩ := id V_a1
  refine own_by (X0.arraylength hx (by rw [e0]; exact Ar119.1) (State.isArrayOf_alike hZ.alike Ar119.2.1) (g := (mkF m 1 #[rv a1] [(.ref a1)])) rfl rfl (hb hby d53_1)) ?_
  rw [len_of Sa119 Na119]
  refine own_gk (XS.iconst X0.here hx rfl (hb hby d53_2)) ?_
  refine own_gk (XS.ishr X0.here hx rfl (hb hby d53_3) rfl) ?_
  show own_Fin _ _ _ _ (s₁.setTop (mkF m 4 #[rv a1] [(.int ((Int32.ofNat (2 * N)) >>> ((1 : Int32) &&& 31)))]))
  rw [show ((Int32.ofNat (2 * N)) >>> ((1 : Int32) &&& 31)) = Int32.ofNat (N) from (own_shrd (a := N) (by omega))]
  obtain ⟨fs120, hr120, hrun120, hended120, hW120, hsame120⟩ := X0.leave (v := some (.int (Int32.ofNat (N)))) (fun h => by rw [hrt] at h; cases h)
  refine own_done (own_retI X0 hx hrt (hb hby d53_4) hr120) hrun120 hended120 ⟨_, _, rfl, ?_, ⟨_, rfl⟩, hW120, hsame120.mono (by decide) (by decide)⟩
  show Qul Z a1 k N f h0 n0 _ s₁.heap _
  rw [e0]
  exact ⟨rfl, N0, rfl⟩
theorem ef_IR_2 (m : MethodId) (x0 : Int32) (x1 : Addr) : entryFrame m #[(.int x0), (.ref x1)] 2 = mkF m 0 #[.val (.int x0), .val (.ref x1)] [] := by first | (simp [entryFrame, mkF, argsToLocals, Value.category]; done) | rfl
def Quci (Z : State) (a2 : Addr) (k : ClassId) (i : Nat) (N : Nat) (f : Nat → Int32) (h0 : Heap) (n0 : Nat) (v : Option Value) (h : Heap) (L : List Loc) : Prop := v = none ∧ Fr n0 L ∧ h = h0
theorem d57_0 : decode jdk_52_method_91_code 0 = .ok (.iload_n 0, 1) := by decide +kernel
theorem d57_1 : decode jdk_52_method_91_code 1 = .ok (.aload_n 1, 1) := by decide +kernel
theorem d57_2 : decode jdk_52_method_91_code 2 = .ok (.invokestatic 48, 3) := by decide +kernel
theorem pd__28__5b_B_29_I : parseMethodDescriptor "([B)I" = some ⟨[(.array .byte)], some .int⟩ := by decide +kernel
theorem d57_5 : decode jdk_52_method_91_code 5 = .ok (.invokestatic 414, 3) := by decide +kernel
theorem d57_8 : decode jdk_52_method_91_code 8 = .ok (.return_, 1) := by decide +kernel
set_option maxRecDepth 65536 in
set_option maxHeartbeats 40000000 in
theorem rmuci (l : Launch) (Z : State) (a0 : Array Value) (hw : ∀ d ∈ tables_1, d.before a0 Z = true) (ws : List Jvm.Cond) (a2 : Addr) (k : ClassId) (i : Nat) (N : Nat) (f : Nat → Int32) (h0 : Heap) (n0 : Nat) (Z0 : n0 ≤ h0.size) (V_a2 : Arv Z h0 a2 k .byte (Int32.ofNat (2 * N)) (List.map Value.int (own_R f (2 * N))) (.int (0 : Int32))) (O0 : own_Old Z n0 h0) (hST : own_ST Z) (hN : N ≤ 64) (hiN : i < N) : own_Met l own_y57 jdk_52_method_91_code 2 none ws ⟨2, 0, 0, 27⟩ #[(.int (Int32.ofNat (i))), (.ref a2)] Z h0 (Quci Z a2 k i N f h0 n0) := by
  refine own_met (plainFor_of_name pn_java_lang_StringUTF16) (fun p e s m below meth c s₁ hx hby hml hrt hlk hZ hown hnm X0 e0 es0 => ?_)
  have N0 := Fr.nil n0
  rw [ef_IR_2 m (Int32.ofNat (i)) a2]
  refine own_gk (XS.iloadN X0.here hx rfl (hb hby d57_0) rfl) ?_
  refine own_gk (XS.aloadN X0.here hx rfl (hb hby d57_1) rfl rfl) ?_
  obtain ⟨_, T121, Lc121, X121, hQ121, st121⟩ := own_callS X0 hx hZ hown (own_h hw 251 rfl) (own_h hw 252 rfl) (own_h hw 170 rfl) (own_h hw 253 rfl) (by decide) (rmul l Z a0 hw [] a2 k N f h0 n0 Z0 V_a2 (by omega)) (W := 1) (by decide) (by decide) (g := (mkF m 2 #[iv (Int32.ofNat (i)), rv a2] [(.ref a2), (.int (Int32.ofNat (i)))])) rfl (by rw [hml]; rfl) (argsL := [(.ref a2)]) (rest := [(.int (Int32.ofNat (i)))]) (lenOf pd__28__5b_B_29_I rfl) rfl (Nat.le_of_eq rfl) (hb hby d57_2) rfl e0 (by decide) (by decide)
  obtain ⟨rfl, Nq121, e121⟩ := hQ121
  refine own_go st121 ?_
  have N121 := Fr.app N0 Nq121
  obtain ⟨_, T122, Lc122, X122, hQ122, st122⟩ := own_callS X121 hx hZ hown (own_h hw 269 rfl) (own_h hw 160 rfl) (own_h hw 7 rfl) (own_h hw 161 rfl) (by decide) (rmsci l Z a0 hw [] (Int32.ofNat (i)) (Int32.ofNat (N)) h0 n0 Z0 (own_nn (a := i) (by omega)) ((own_ltN (a := i) (b := N) (by omega) (by omega)).mpr (by omega)) O0 hST) (W := 0) (by decide) (by decide) (g := (mkF m 5 #[iv (Int32.ofNat (i)), rv a2] [(.int (Int32.ofNat (N))), (.int (Int32.ofNat (i)))])) rfl (by rw [hml]; rfl) (argsL := [(.int (Int32.ofNat (i))), (.int (Int32.ofNat (N)))]) (rest := []) (lenOf pd__28_II_29_V rfl) rfl (Nat.le_of_eq rfl) (hb hby d57_5) rfl e121 (by decide) (by decide)
  obtain ⟨rfl, Nq122, e122⟩ := hQ122
  refine own_go st122 ?_
  have N122 := Fr.app N121 Nq122
  obtain ⟨fs123, hr123, hrun123, hended123, hW123, hsame123⟩ := X122.leave (v := none) (fun _ => rfl)
  refine own_done (X122.returnOut hx hrt (hb hby d57_8) hr123) hrun123 hended123 ⟨_, _, rfl, ?_, ⟨_, rfl⟩, hW123, hsame123.mono (by decide) (by decide)⟩
  show Quci Z a2 k i N f h0 n0 _ T122.heap _
  rw [e122]
  exact ⟨rfl, N122, rfl⟩
def Quch (Z : State) (a1 : Addr) (k : ClassId) (i : Nat) (N : Nat) (cs : Nat → Int32) (h0 : Heap) (n0 : Nat) (v : Option Value) (h : Heap) (L : List Loc) : Prop := v = some (.int (cs i)) ∧ Fr n0 L ∧ h = h0
theorem d56_0 : decode jdk_52_method_83_code 0 = .ok (.iload_n 1, 1) := by decide +kernel
theorem d56_1 : decode jdk_52_method_83_code 1 = .ok (.aload_n 0, 1) := by decide +kernel
theorem d56_2 : decode jdk_52_method_83_code 2 = .ok (.invokestatic 67, 3) := by decide +kernel
theorem pd__28_I_5b_B_29_V : parseMethodDescriptor "(I[B)V" = some ⟨[.int, (.array .byte)], none⟩ := by decide +kernel
theorem d56_5 : decode jdk_52_method_83_code 5 = .ok (.aload_n 0, 1) := by decide +kernel
theorem d56_6 : decode jdk_52_method_83_code 6 = .ok (.iload_n 1, 1) := by decide +kernel
theorem d56_7 : decode jdk_52_method_83_code 7 = .ok (.invokestatic 71, 3) := by decide +kernel
theorem d56_10 : decode jdk_52_method_83_code 10 = .ok (.ireturn, 1) := by decide +kernel
set_option maxRecDepth 65536 in
set_option maxHeartbeats 40000000 in
theorem rmuch (l : Launch) (Z : State) (a0 : Array Value) (hw : ∀ d ∈ tables_1, d.before a0 Z = true) (ws : List Jvm.Cond) (a1 : Addr) (k : ClassId) (i : Nat) (N : Nat) (cs : Nat → Int32) (h0 : Heap) (n0 : Nat) (Z0 : n0 ≤ h0.size) (V_a1 : Arv Z h0 a1 k .byte (Int32.ofNat (2 * N)) (List.map Value.int (own_R (own_u cs) (2 * N))) (.int (0 : Int32))) (O0 : own_Old Z n0 h0) (hST : own_ST Z) (hN : N ≤ 64) (hiN : i < N) (hch : ∀ i, own_ch (cs i)) : own_Met l own_y56 jdk_52_method_83_code 2 (some .char) ws ⟨3, 0, 0, 40⟩ #[(.ref a1), (.int (Int32.ofNat (i)))] Z h0 (Quch Z a1 k i N cs h0 n0) := by
  refine own_met (plainFor_of_name pn_java_lang_StringUTF16) (fun p e s m below meth c s₁ hx hby hml hrt hlk hZ hown hnm X0 e0 es0 => ?_)
  have N0 := Fr.nil n0
  rw [ef_RI_2 m a1 (Int32.ofNat (i))]
  refine own_gk (XS.iloadN X0.here hx rfl (hb hby d56_0) rfl) ?_
  refine own_gk (XS.aloadN X0.here hx rfl (hb hby d56_1) rfl rfl) ?_
  obtain ⟨_, T124, Lc124, X124, hQ124, st124⟩ := own_callS X0 hx hZ hown (own_h hw 266 rfl) (own_h hw 267 rfl) (own_h hw 170 rfl) (own_h hw 268 rfl) (by decide) (rmuci l Z a0 hw [] a1 k i N (own_u cs) h0 n0 Z0 V_a1 O0 hST hN hiN) (W := 0) (by decide) (by decide) (g := (mkF m 2 #[rv a1, iv (Int32.ofNat (i))] [(.ref a1), (.int (Int32.ofNat (i)))])) rfl (by rw [hml]; rfl) (argsL := [(.int (Int32.ofNat (i))), (.ref a1)]) (rest := []) (lenOf pd__28_I_5b_B_29_V rfl) rfl (Nat.le_of_eq rfl) (hb hby d56_2) rfl e0 (by decide) (by decide)
  obtain ⟨rfl, Nq124, e124⟩ := hQ124
  refine own_go st124 ?_
  have N124 := Fr.app N0 Nq124
  refine own_gk (XS.aloadN X124.here hx rfl (hb hby d56_5) rfl rfl) ?_
  refine own_gk (XS.iloadN X124.here hx rfl (hb hby d56_6) rfl) ?_
  show own_Fin _ _ _ _ (T124.setTop (mkF m 7 #[rv a1, iv (Int32.ofNat (i))] [(.int (Int32.ofNat (i))), (.ref a1)]))
  obtain ⟨_, T125, Lc125, X125, hQ125, st125⟩ := own_callS X124 hx hZ hown (own_h hw 232 rfl) (own_h hw 233 rfl) (own_h hw 170 rfl) (own_h hw 234 rfl) (by decide) (rmgc l Z a0 hw [] a1 k (2 * N) (own_u cs) i (cs i) h0 n0 Z0 V_a1 O0 hST (by omega) (by omega) (own_u0 _ _) (own_u1 _ _) (hch _)) (W := 0) (by decide) (by decide) (g := (mkF m 7 #[rv a1, iv (Int32.ofNat (i))] [(.int (Int32.ofNat (i))), (.ref a1)])) rfl (by rw [hml]; rfl) (argsL := [(.ref a1), (.int (Int32.ofNat (i)))]) (rest := []) (lenOf pd__28__5b_BI_29_C rfl) rfl (Nat.le_of_eq rfl) (hb hby d56_7) rfl e124 (by decide) (by decide)
  obtain ⟨rfl, Nq125, e125⟩ := hQ125
  refine own_go st125 ?_
  have N125 := Fr.app N124 Nq125
  obtain ⟨fs126, hr126, hrun126, hended126, hW126, hsame126⟩ := X125.leave (v := some (.int (nar .char (cs i)))) (fun h => by rw [hrt] at h; cases h)
  refine own_done (retN X125 hx (t := .char) hrt (by simp) (hb hby d56_10) hr126) hrun126 hended126 ⟨_, _, rfl, ?_, ⟨_, rfl⟩, hW126, hsame126.mono (by decide) (by decide)⟩
  show Quch Z a1 k i N cs h0 n0 _ T125.heap _
  rw [e125]
  exact ⟨(by rw [own_chn (hch i)]), N125, rfl⟩
def Qcat (Z : State) (a1 : Addr) (i : Nat) (N : Nat) (cs : Nat → Int32) (h0 : Heap) (n0 : Nat) (v : Option Value) (h : Heap) (L : List Loc) : Prop := v = some (.int (cs i)) ∧ Fr n0 L ∧ h = h0
theorem d27_0 : decode jdk_42_method_56_code 0 = .ok (.aload_n 0, 1) := by decide +kernel
theorem d27_1 : decode jdk_42_method_56_code 1 = .ok (.invokevirtual 492, 3) := by decide +kernel
theorem pd__28__29_Z : parseMethodDescriptor "()Z" = some ⟨[], some .boolean⟩ := by decide +kernel
theorem d27_4 : decode jdk_42_method_56_code 4 = .ok (.ifCond .eq 12, 3) := by decide +kernel
theorem d27_7 : decode jdk_42_method_56_code 7 = .ok (.aload_n 0, 1) := by decide +kernel
theorem d27_8 : decode jdk_42_method_56_code 8 = .ok (.getfield 9, 3) := by decide +kernel
theorem d27_11 : decode jdk_42_method_56_code 11 = .ok (.iload_n 1, 1) := by decide +kernel
theorem d27_12 : decode jdk_42_method_56_code 12 = .ok (.invokestatic 495, 3) := by decide +kernel
theorem d27_15 : decode jdk_42_method_56_code 15 = .ok (.ireturn, 1) := by decide +kernel
theorem d27_16 : decode jdk_42_method_56_code 16 = .ok (.aload_n 0, 1) := by decide +kernel
theorem d27_17 : decode jdk_42_method_56_code 17 = .ok (.getfield 9, 3) := by decide +kernel
theorem d27_20 : decode jdk_42_method_56_code 20 = .ok (.iload_n 1, 1) := by decide +kernel
theorem d27_21 : decode jdk_42_method_56_code 21 = .ok (.invokestatic 498, 3) := by decide +kernel
theorem d27_24 : decode jdk_42_method_56_code 24 = .ok (.ireturn, 1) := by decide +kernel
set_option maxRecDepth 65536 in
set_option maxHeartbeats 40000000 in
theorem rmcat (l : Launch) (Z : State) (a0 : Array Value) (hw : ∀ d ∈ tables_1, d.before a0 Z = true) (ws : List Jvm.Cond) (a1 : Addr) (i : Nat) (N : Nat) (cs : Nat → Int32) (h0 : Heap) (n0 : Nat) (Z0 : n0 ≤ h0.size) (hS : own_Str Z h0 a1 N cs) (O0 : own_Old Z n0 h0) (hST : own_ST Z) (hN : N ≤ 64) (hiN : i < N) (hch : ∀ i, own_ch (cs i)) : own_Met l own_y27 jdk_42_method_56_code 2 (some .char) ws ⟨4, 0, 0, 53⟩ #[(.ref a1), (.int (Int32.ofNat (i)))] Z h0 (Qcat Z a1 i N cs h0 n0) := by
  refine own_met (plainFor_of_name pn_java_lang_String) (fun p e s m below meth c s₁ hx hby hml hrt hlk hZ hown hnm X0 e0 es0 => ?_)
  have N0 := Fr.nil n0
  rw [ef_RI_2 m a1 (Int32.ofNat (i))]
  obtain ⟨E_a1, v_, kq, Fv_, ⟨FcL, hal, VqL⟩ | ⟨FcU, VqU⟩⟩ := id hS
  · refine own_gk (XS.aloadN X0.here hx rfl (hb hby d27_0) rfl rfl) ?_
    obtain ⟨_, T127, Lc127, X127, hQ127, st127⟩ := own_callV X0 hx hZ E_a1 hown (own_h hw 150 rfl) (own_h hw 151 rfl) (notFace_of_selects (args := #[]) (mvT hZ (own_h hw 153 rfl))) (own_h hw 153 rfl) (own_h hw 152 rfl) (own_h hw 7 rfl) (own_h hw 154 rfl) (by decide) (rmil_0 l Z a0 hw [] a1 h0 n0 Z0 FcL O0 hST) (W := 0) (by decide) (by decide) (g := (mkF m 1 #[rv a1, iv (Int32.ofNat (i))] [(.ref a1)])) rfl (by rw [hml]; rfl) (argsL := []) (rest := []) (lenOf pd__28__29_Z rfl) rfl (Nat.le_of_eq rfl) (hb hby d27_1) rfl e0 (by decide) (by decide)
    obtain ⟨rfl, Nq127, e127⟩ := hQ127
    refine own_go st127 ?_
    have N127 := Fr.app N0 Nq127
    refine own_gk (XS.ifNo X127.here hx rfl (hb hby d27_4) rfl ((if0 _ _).trans (feq (by decide : ¬ ((1 : Int32) = (0 : Int32)))).1)) ?_
    refine own_gk (XS.aloadN X127.here hx rfl (hb hby d27_7) rfl rfl) ?_
    show own_Fin _ _ _ _ (T127.setTop (mkF m 8 #[rv a1, iv (Int32.ofNat (i))] [(.ref a1)]))
    obtain ⟨T128, X128, e128, st128⟩ := getF X127 hx hZ hown (host := "") (Or.inl (own_h hw 24 rfl)) Via.refl e127 Fv_ (g := (mkF m 8 #[rv a1, iv (Int32.ofNat (i))] [(.ref a1)])) rfl rfl (hb hby d27_8)
    refine own_by st128 ?_
    refine own_gk (XS.iloadN X128.here hx rfl (hb hby d27_11) rfl) ?_
    obtain ⟨_, T129, Lc129, X129, hQ129, st129⟩ := own_callS X128 hx hZ hown (own_h hw 155 rfl) (own_h hw 156 rfl) (own_h hw 157 rfl) (own_h hw 158 rfl) (by decide) (rmlch l Z a0 hw [] v_ kq i N cs h0 n0 Z0 VqL O0 hST hN hiN hch hal) (W := 0) (by decide) (by decide) (g := (mkF m 12 #[rv a1, iv (Int32.ofNat (i))] [(.int (Int32.ofNat (i))), (.ref v_)])) rfl (by rw [hml]; rfl) (argsL := [(.ref v_), (.int (Int32.ofNat (i)))]) (rest := []) (lenOf pd__28__5b_BI_29_C rfl) rfl (Nat.le_of_eq rfl) (hb hby d27_12) rfl e128 (by decide) (by decide)
    obtain ⟨rfl, Nq129, e129⟩ := hQ129
    refine own_go st129 ?_
    have N129 := Fr.app N127 Nq129
    obtain ⟨fs130, hr130, hrun130, hended130, hW130, hsame130⟩ := X129.leave (v := some (.int (nar .char (cs i)))) (fun h => by rw [hrt] at h; cases h)
    refine own_done (retN X129 hx (t := .char) hrt (by simp) (hb hby d27_15) hr130) hrun130 hended130 ⟨_, _, rfl, ?_, ⟨_, rfl⟩, hW130, hsame130.mono (by decide) (by decide)⟩
    show Qcat Z a1 i N cs h0 n0 _ T129.heap _
    rw [e129]
    exact ⟨(by rw [own_chn (hch i)]), N129, rfl⟩
  · refine own_gk (XS.aloadN X0.here hx rfl (hb hby d27_0) rfl rfl) ?_
    obtain ⟨_, T131, Lc131, X131, hQ131, st131⟩ := own_callV X0 hx hZ E_a1 hown (own_h hw 150 rfl) (own_h hw 151 rfl) (notFace_of_selects (args := #[]) (mvT hZ (own_h hw 153 rfl))) (own_h hw 153 rfl) (own_h hw 152 rfl) (own_h hw 7 rfl) (own_h hw 154 rfl) (by decide) (rmil_1 l Z a0 hw [] a1 h0 n0 Z0 FcU O0 hST) (W := 0) (by decide) (by decide) (g := (mkF m 1 #[rv a1, iv (Int32.ofNat (i))] [(.ref a1)])) rfl (by rw [hml]; rfl) (argsL := []) (rest := []) (lenOf pd__28__29_Z rfl) rfl (Nat.le_of_eq rfl) (hb hby d27_1) rfl e0 (by decide) (by decide)
    obtain ⟨rfl, Nq131, e131⟩ := hQ131
    refine own_go st131 ?_
    have N131 := Fr.app N0 Nq131
    refine own_gk (XS.ifYes X131.here hx rfl (pc0 := 4) (pc' := 16) rfl (hb hby d27_4) rfl ((if0 _ _).trans (teq (by decide : (0 : Int32) = (0 : Int32))).1) (by decide) (by decide)) ?_
    refine own_gk (XS.aloadN X131.here hx rfl (hb hby d27_16) rfl rfl) ?_
    show own_Fin _ _ _ _ (T131.setTop (mkF m 17 #[rv a1, iv (Int32.ofNat (i))] [(.ref a1)]))
    obtain ⟨T132, X132, e132, st132⟩ := getF X131 hx hZ hown (host := "") (Or.inl (own_h hw 24 rfl)) Via.refl e131 Fv_ (g := (mkF m 17 #[rv a1, iv (Int32.ofNat (i))] [(.ref a1)])) rfl rfl (hb hby d27_17)
    refine own_by st132 ?_
    refine own_gk (XS.iloadN X132.here hx rfl (hb hby d27_20) rfl) ?_
    obtain ⟨_, T133, Lc133, X133, hQ133, st133⟩ := own_callS X132 hx hZ hown (own_h hw 263 rfl) (own_h hw 264 rfl) (own_h hw 170 rfl) (own_h hw 265 rfl) (by decide) (rmuch l Z a0 hw [] v_ kq i N cs h0 n0 Z0 VqU O0 hST hN hiN hch) (W := 0) (by decide) (by decide) (g := (mkF m 21 #[rv a1, iv (Int32.ofNat (i))] [(.int (Int32.ofNat (i))), (.ref v_)])) rfl (by rw [hml]; rfl) (argsL := [(.ref v_), (.int (Int32.ofNat (i)))]) (rest := []) (lenOf pd__28__5b_BI_29_C rfl) rfl (Nat.le_of_eq rfl) (hb hby d27_21) rfl e132 (by decide) (by decide)
    obtain ⟨rfl, Nq133, e133⟩ := hQ133
    refine own_go st133 ?_
    have N133 := Fr.app N131 Nq133
    obtain ⟨fs134, hr134, hrun134, hended134, hW134, hsame134⟩ := X133.leave (v := some (.int (nar .char (cs i)))) (fun h => by rw [hrt] at h; cases h)
    refine own_done (retN X133 hx (t := .char) hrt (by simp) (hb hby d27_24) hr134) hrun134 hended134 ⟨_, _, rfl, ?_, ⟨_, rfl⟩, hW134, hsame134.mono (by decide) (by decide)⟩
    show Qcat Z a1 i N cs h0 n0 _ T133.heap _
    rw [e133]
    exact ⟨(by rw [own_chn (hch i)]), N133, rfl⟩
theorem pn_java_lang_AbstractStringBuilder : plainName "java/lang/AbstractStringBuilder" = true := by first | (simp [plainName, overriddenIn]; done) | decide +kernel
def Qasbi (Z : State) (a1 : Addr) (h0 : Heap) (n0 : Nat) (v : Option Value) (h : Heap) (L : List Loc) : Prop := ∃ (b : Addr) (kb : ClassId), v = none ∧ Fr n0 L ∧ Keep h0 h [a1] ∧ n0 ≤ b ∧ h0.size ≤ b ∧ Exa Z h a1 "java/lang/StringBuilder" ∧ Fld Z h a1 "java/lang/AbstractStringBuilder" "value" "[B" (.ref b) ∧ Fld Z h a1 "java/lang/AbstractStringBuilder" "count" "I" (.int (0 : Int32)) ∧ Fld Z h a1 "java/lang/AbstractStringBuilder" "coder" "B" (.int (0 : Int32)) ∧ Fld Z h a1 "java/lang/AbstractStringBuilder" "maybeLatin1" "Z" (.int (0 : Int32)) ∧ Arv Z h b kb .byte (16 : Int32) (List.map Value.int (own_R ((fun _ => (0 : Int32))) 16)) (.int (0 : Int32))
theorem d9_0 : decode jdk_68_method_2_code 0 = .ok (.aload_n 0, 1) := by decide +kernel
theorem d9_1 : decode jdk_68_method_2_code 1 = .ok (.invokespecial 3, 3) := by decide +kernel
theorem d9_4 : decode jdk_68_method_2_code 4 = .ok (.getstatic 18, 3) := by decide +kernel
theorem d9_7 : decode jdk_68_method_2_code 7 = .ok (.ifCond .eq 18, 3) := by decide +kernel
theorem d9_10 : decode jdk_68_method_2_code 10 = .ok (.aload_n 0, 1) := by decide +kernel
theorem d9_11 : decode jdk_68_method_2_code 11 = .ok (.iload_n 1, 1) := by decide +kernel
theorem d9_12 : decode jdk_68_method_2_code 12 = .ok (.newarray .byte, 2) := by decide +kernel
theorem d9_14 : decode jdk_68_method_2_code 14 = .ok (.putfield 15, 3) := by decide +kernel
theorem d9_17 : decode jdk_68_method_2_code 17 = .ok (.aload_n 0, 1) := by decide +kernel
theorem d9_18 : decode jdk_68_method_2_code 18 = .ok (.iconst 0, 1) := by decide +kernel
theorem d9_19 : decode jdk_68_method_2_code 19 = .ok (.putfield 22, 3) := by decide +kernel
theorem d9_22 : decode jdk_68_method_2_code 22 = .ok (.goto 16, 3) := by decide +kernel
theorem d9_38 : decode jdk_68_method_2_code 38 = .ok (.return_, 1) := by decide +kernel
set_option maxRecDepth 65536 in
set_option maxHeartbeats 40000000 in
theorem rmasbi (l : Launch) (Z : State) (a0 : Array Value) (hw : ∀ d ∈ tables_1, d.before a0 Z = true) (ws : List Jvm.Cond) (a1 : Addr) (h0 : Heap) (n0 : Nat) (Z0 : n0 ≤ h0.size) (E_a1 : Exa Z h0 a1 "java/lang/StringBuilder") (F_value_a1 : Fld Z h0 a1 "java/lang/AbstractStringBuilder" "value" "[B" .null) (F_count_a1 : Fld Z h0 a1 "java/lang/AbstractStringBuilder" "count" "I" (.int (0 : Int32))) (F_coder_a1 : Fld Z h0 a1 "java/lang/AbstractStringBuilder" "coder" "B" (.int (0 : Int32))) (F_maybeLatin1_a1 : Fld Z h0 a1 "java/lang/AbstractStringBuilder" "maybeLatin1" "Z" (.int (0 : Int32))) (g_a1 : n0 ≤ a1) (O0 : own_Old Z n0 h0) (hST : own_ST Z) : own_Met l own_y9 jdk_68_method_2_code 2 none ws ⟨1, 1, 16, 12⟩ #[(.ref a1), (.int (16 : Int32))] Z h0 (Qasbi Z a1 h0 n0) := by
  refine own_met (plainFor_of_name pn_java_lang_AbstractStringBuilder) (fun p e s m below meth c s₁ hx hby hml hrt hlk hZ hown hnm X0 e0 es0 => ?_)
  have N0 := Fr.nil n0
  rw [ef_RI_2 m a1 (16 : Int32)]
  have Kz := Keep.refl h0 [a1]
  obtain ⟨ct, sv, hct, hsv, S__assertionsDisabled, S_HI_BYTE_SHIFT, S_LO_BYTE_SHIFT, S_COMPACT_STRINGS, S_SIOOBE_FORMATTER⟩ := id hST
  refine own_gk (XS.aloadN X0.here hx rfl (hb hby d9_0) rfl rfl) ?_
  obtain ⟨T135, X135, e135, st135⟩ := initO X0 hx hZ hown (own_h hw 53 rfl) (own_h hw 16 rfl) (own_h hw 17 rfl) e0 (g := (mkF m 1 #[rv a1, iv (16 : Int32)] [(.ref a1)])) rfl (by rw [hml]; rfl) rfl (hb hby d9_1) (by decide) (W := 0) (by show 2 * 0 + _ ≤ _; exact Nat.le_of_eq rfl) (by decide)
  refine own_by st135 ?_
  obtain ⟨T136, X136, e136, st136⟩ := getS2 X135 hx hZ hown (host := "") (Or.inl (own_h hw 54 rfl)) Via.refl e135 (S_COMPACT_STRINGS.ext O0.2) (g := (mkF m 4 #[rv a1, iv (16 : Int32)] [])) rfl (hb hby d9_4)
  refine own_by st136 ?_
  refine own_gk (XS.ifNo X136.here hx rfl (hb hby d9_7) rfl ((if0 _ _).trans (feq (show ¬ (ct = (0 : Int32)) from hct)).1)) ?_
  refine own_gk (XS.aloadN X136.here hx rfl (hb hby d9_10) rfl rfl) ?_
  show own_Fin _ _ _ _ (T136.setTop (mkF m 11 #[rv a1, iv (16 : Int32)] [(.ref a1)]))
  refine own_gk (XS.iloadN X136.here hx rfl (hb hby d9_11) rfl) ?_
  obtain ⟨T137, h137, k137, X137, e137, E137, A137, st137⟩ := newP X136 hx hZ (own_h hw 19 rfl) e136 (g := (mkF m 12 #[rv a1, iv (16 : Int32)] [(.int (16 : Int32)), (.ref a1)])) rfl (hb hby d9_12) (n := (16 : Int32)) rfl (own_nn (a := 16) (by omega)) (cap := 16) (Nat.le_trans (Nat.le_of_eq (own_tn (a := 16) (by omega))) (by omega)) (by decide) (by decide) (by decide)
  obtain ⟨b137, g137⟩ : ∃ z, z = h0.size := ⟨_, rfl⟩
  rw [← g137] at A137 st137
  refine own_by st137 ?_
  have ne_a1_b137 : a1 ≠ b137 := Nat.ne_of_lt (Nat.lt_of_lt_of_eq E_a1.lt g137.symm)
  have Od137 := O0.ext E137
  have E_a1_137 := E_a1.ext E137
  have F_value_a1_137 := F_value_a1.ext E137
  have F_count_a1_137 := F_count_a1.ext E137
  have F_coder_a1_137 := F_coder_a1.ext E137
  have F_maybeLatin1_a1_137 := F_maybeLatin1_a1.ext E137
  have g_b137 : n0 ≤ b137 := Nat.le_trans Z0 (Nat.le_of_eq g137.symm)
  have sz_b137 : h0.size ≤ b137 := Nat.le_trans Kz.1 (Nat.le_of_eq g137.symm)
  have K137 := Kz.ext E137
  have Z137 : n0 ≤ h137.size := Nat.le_trans Z0 E137.1
  have V_b137 : Arv Z h137 b137 k137 .byte (16 : Int32) (List.map Value.int (own_R ((fun _ => (0 : Int32))) 16)) (.int (0 : Int32)) := (Arv.new A137 (own_nn (a := 16) (by omega))).pad (own_pad0 _)
  obtain ⟨T138, h138, X138, e138, W138, st138⟩ := putF X137 hx hZ hown (host := "") (Or.inl (own_h hw 55 rfl)) Via.refl e137 F_value_a1_137 E_a1_137 (Or.inl (own_h hw 56 rfl)) (own_h hw 42 rfl) (ty := (.array .byte)) (by decide) rfl rfl (g := (mkF m 14 #[rv a1, iv (16 : Int32)] [(.ref b137), (.ref a1)])) rfl rfl (hb hby d9_14)
  refine own_by st138 ?_
  have F_value_a1_138 := F_value_a1_137.same W138
  have Od138 := Od137.wr W138 g_a1
  have E_a1_138 := E_a1_137.wr W138
  have F_count_a1_138 := F_count_a1_137.other W138 (Or.inr (slot_ne (Or.inl (own_h hw 72 rfl)) (Or.inl (own_h hw 56 rfl)) (by decide) (t := .int) (t' := (.array .byte)) (by decide) (by decide)))
  have F_coder_a1_138 := F_coder_a1_137.other W138 (Or.inr (slot_ne (Or.inl (own_h hw 58 rfl)) (Or.inl (own_h hw 56 rfl)) (by decide) (t := .byte) (t' := (.array .byte)) (by decide) (by decide)))
  have F_maybeLatin1_a1_138 := F_maybeLatin1_a1_137.other W138 (Or.inr (slot_ne (Or.inl (own_h hw 262 rfl)) (Or.inl (own_h hw 56 rfl)) (by decide) (t := .boolean) (t' := (.array .byte)) (by decide) (by decide)))
  have V_b137_138 := V_b137.other W138 (Ne.symm ne_a1_b137)
  have N138 := Fr.snoc X138 N0 g_a1
  have Z138 : n0 ≤ h138.size := Nat.le_trans Z137 (Keep.of_wr W138).1
  have K138 := K137.wr W138 (Or.inl (List.mem_of_getElem? (i := 0) rfl))
  refine own_gk (XS.aloadN X138.here hx rfl (hb hby d9_17) rfl rfl) ?_
  refine own_gk (XS.iconst X138.here hx rfl (hb hby d9_18)) ?_
  show own_Fin _ _ _ _ (T138.setTop (mkF m 19 #[rv a1, iv (16 : Int32)] [(.int (0 : Int32)), (.ref a1)]))
  obtain ⟨T139, h139, X139, e139, W139, st139⟩ := putFN X138 hx hZ hown (own_h hw 57 rfl) Via.refl e138 F_coder_a1_138 E_a1_138 (Or.inl (own_h hw 58 rfl)) (own_h hw 42 rfl) (ty := .byte) (v' := (.int (nar .byte (0 : Int32)))) (by decide) rfl (fits_nar_byte _) (g := (mkF m 19 #[rv a1, iv (16 : Int32)] [(.int (0 : Int32)), (.ref a1)])) rfl rfl (hb hby d9_19)
  refine own_by st139 ?_
  have F_coder_a1_139 := F_coder_a1_138.same W139
  have Od139 := Od138.wr W139 g_a1
  have E_a1_139 := E_a1_138.wr W139
  have F_value_a1_139 := F_value_a1_138.other W139 (Or.inr (slot_ne (Or.inl (own_h hw 56 rfl)) (Or.inl (own_h hw 58 rfl)) (by decide) (t := (.array .byte)) (t' := .byte) (by decide) (by decide)))
  have F_count_a1_139 := F_count_a1_138.other W139 (Or.inr (slot_ne (Or.inl (own_h hw 72 rfl)) (Or.inl (own_h hw 58 rfl)) (by decide) (t := .int) (t' := .byte) (by decide) (by decide)))
  have F_maybeLatin1_a1_139 := F_maybeLatin1_a1_138.other W139 (Or.inr (slot_ne (Or.inl (own_h hw 262 rfl)) (Or.inl (own_h hw 58 rfl)) (by decide) (t := .boolean) (t' := .byte) (by decide) (by decide)))
  have V_b137_139 := V_b137_138.other W139 (Ne.symm ne_a1_b137)
  have N139 := Fr.snoc X139 N138 g_a1
  have Z139 : n0 ≤ h139.size := Nat.le_trans Z138 (Keep.of_wr W139).1
  have K139 := K138.wr W139 (Or.inl (List.mem_of_getElem? (i := 0) rfl))
  refine own_gk (XS.goto X139.here hx rfl (pc0 := 22) (pc' := 38) rfl (hb hby d9_22) (by decide) (by decide)) ?_
  obtain ⟨fs140, hr140, hrun140, hended140, hW140, hsame140⟩ := X139.leave (v := none) (fun _ => rfl)
  refine own_done (X139.returnOut hx hrt (hb hby d9_38) hr140) hrun140 hended140 ⟨_, _, rfl, ?_, ⟨_, rfl⟩, hW140, hsame140.mono (by decide) (by decide)⟩
  show Qasbi Z a1 h0 n0 _ T139.heap _
  rw [e139]
  exact ⟨b137, k137, rfl, N139, K139, g_b137, sz_b137, E_a1_139, F_value_a1_139, F_count_a1_139, F_coder_a1_139, F_maybeLatin1_a1_139, V_b137_139⟩
theorem pn_java_lang_StringBuilder : plainName "java/lang/StringBuilder" = true := by first | (simp [plainName, overriddenIn]; done) | decide +kernel
def Qsbi (Z : State) (a1 : Addr) (h0 : Heap) (n0 : Nat) (v : Option Value) (h : Heap) (L : List Loc) : Prop := ∃ (b : Addr) (kb : ClassId), v = none ∧ Fr n0 L ∧ Keep h0 h [a1] ∧ n0 ≤ b ∧ h0.size ≤ b ∧ Exa Z h a1 "java/lang/StringBuilder" ∧ Fld Z h a1 "java/lang/AbstractStringBuilder" "value" "[B" (.ref b) ∧ Fld Z h a1 "java/lang/AbstractStringBuilder" "count" "I" (.int (0 : Int32)) ∧ Fld Z h a1 "java/lang/AbstractStringBuilder" "coder" "B" (.int (0 : Int32)) ∧ Fld Z h a1 "java/lang/AbstractStringBuilder" "maybeLatin1" "Z" (.int (0 : Int32)) ∧ Arv Z h b kb .byte (16 : Int32) (List.map Value.int (own_R ((fun _ => (0 : Int32))) 16)) (.int (0 : Int32))
theorem d8_0 : decode jdk_67_method_1_code 0 = .ok (.aload_n 0, 1) := by decide +kernel
theorem d8_1 : decode jdk_67_method_1_code 1 = .ok (.bipush 16, 2) := by decide +kernel
theorem d8_3 : decode jdk_67_method_1_code 3 = .ok (.invokespecial 1, 3) := by decide +kernel
theorem pd__28_I_29_V : parseMethodDescriptor "(I)V" = some ⟨[.int], none⟩ := by decide +kernel
theorem d8_6 : decode jdk_67_method_1_code 6 = .ok (.return_, 1) := by decide +kernel
set_option maxRecDepth 65536 in
set_option maxHeartbeats 40000000 in
theorem rmsbi (l : Launch) (Z : State) (a0 : Array Value) (hw : ∀ d ∈ tables_1, d.before a0 Z = true) (ws : List Jvm.Cond) (a1 : Addr) (h0 : Heap) (n0 : Nat) (Z0 : n0 ≤ h0.size) (E_a1 : Exa Z h0 a1 "java/lang/StringBuilder") (F_value_a1 : Fld Z h0 a1 "java/lang/AbstractStringBuilder" "value" "[B" .null) (F_count_a1 : Fld Z h0 a1 "java/lang/AbstractStringBuilder" "count" "I" (.int (0 : Int32))) (F_coder_a1 : Fld Z h0 a1 "java/lang/AbstractStringBuilder" "coder" "B" (.int (0 : Int32))) (F_maybeLatin1_a1 : Fld Z h0 a1 "java/lang/AbstractStringBuilder" "maybeLatin1" "Z" (.int (0 : Int32))) (g_a1 : n0 ≤ a1) (O0 : own_Old Z n0 h0) (hST : own_ST Z) : own_Met l own_y8 jdk_67_method_1_code 1 none ws ⟨2, 1, 16, 25⟩ #[(.ref a1)] Z h0 (Qsbi Z a1 h0 n0) := by
  refine own_met (plainFor_of_name pn_java_lang_StringBuilder) (fun p e s m below meth c s₁ hx hby hml hrt hlk hZ hown hnm X0 e0 es0 => ?_)
  have N0 := Fr.nil n0
  rw [ef_R_1 m a1]
  have Kz := Keep.refl h0 [a1]
  refine own_gk (XS.aloadN X0.here hx rfl (hb hby d8_0) rfl rfl) ?_
  refine own_gk (XS.bipush X0.here hx rfl (hb hby d8_1)) ?_
  obtain ⟨_, T141, Lc141, X141, hQ141, st141⟩ := own_callI X0 hx hZ rfl hown (own_h hw 47 rfl) (own_h hw 48 rfl) (own_h hw 51 rfl) (own_h hw 52 rfl) (by decide) (rmasbi l Z a0 hw [] a1 h0 n0 Z0 E_a1 F_value_a1 F_count_a1 F_coder_a1 F_maybeLatin1_a1 g_a1 O0 hST) (W := 0) (by decide) (by decide) (g := (mkF m 3 #[rv a1] [(.int (16 : Int32)), (.ref a1)])) rfl (by rw [hml]; rfl) (argsL := [(.int (16 : Int32))]) (rest := []) (lenOf pd__28_I_29_V rfl) rfl (Nat.le_of_eq rfl) (hb hby d8_3) rfl e0 (by decide) (by decide)
  refine own_go st141 ?_
  obtain ⟨b_141, kb_141, rfl, Nq141, K141, g_b_141, sb_b_141, r141_0, r141_1, r141_2, r141_3, r141_4, r141_5⟩ := hQ141
  have ne_a1_b_141 : a1 ≠ b_141 := Nat.ne_of_lt (Nat.lt_of_lt_of_le E_a1.lt sb_b_141)
  have sz_b_141 : h0.size ≤ b_141 := Nat.le_trans Kz.1 sb_b_141
  have Od141 := O0.keep K141 (allS g_a1 all0)
  have E_a1_141 := E_a1.keep K141
  have Z141 : n0 ≤ T141.heap.size := Nat.le_trans Z0 K141.1
  have Kt141 := Kz.trans K141 (allS (P := fun x => x ∈ _ ∨ _ ≤ x) (Or.inl (List.mem_of_getElem? (i := 0) rfl)) all0)
  have N141 := Fr.app N0 Nq141
  obtain ⟨fs142, hr142, hrun142, hended142, hW142, hsame142⟩ := X141.leave (v := none) (fun _ => rfl)
  refine own_done (X141.returnOut hx hrt (hb hby d8_6) hr142) hrun142 hended142 ⟨_, _, rfl, ?_, ⟨_, rfl⟩, hW142, hsame142.mono (by decide) (by decide)⟩
  show Qsbi Z a1 h0 n0 _ T141.heap _
  exact ⟨b_141, kb_141, rfl, N141, Kt141, g_b_141, sz_b_141, r141_0, r141_1, r141_2, r141_3, r141_4, r141_5⟩
def Qmx (Z : State) (x : Nat) (y : Nat) (h0 : Heap) (n0 : Nat) (v : Option Value) (h : Heap) (L : List Loc) : Prop := v = some (.int (Int32.ofNat (max x y))) ∧ Fr n0 L ∧ h = h0
theorem d37_0 : decode jdk_29_method_65_code 0 = .ok (.iload_n 0, 1) := by decide +kernel
theorem d37_1 : decode jdk_29_method_65_code 1 = .ok (.iload_n 1, 1) := by decide +kernel
theorem d37_2 : decode jdk_29_method_65_code 2 = .ok (.if_icmp .lt 7, 3) := by decide +kernel
theorem d37_9 : decode jdk_29_method_65_code 9 = .ok (.iload_n 1, 1) := by decide +kernel
theorem d37_10 : decode jdk_29_method_65_code 10 = .ok (.ireturn, 1) := by decide +kernel
theorem d37_5 : decode jdk_29_method_65_code 5 = .ok (.iload_n 0, 1) := by decide +kernel
theorem d37_6 : decode jdk_29_method_65_code 6 = .ok (.goto 4, 3) := by decide +kernel
set_option maxRecDepth 65536 in
set_option maxHeartbeats 40000000 in
theorem rmmx (l : Launch) (Z : State) (a0 : Array Value) (hw : ∀ d ∈ tables_1, d.before a0 Z = true) (ws : List Jvm.Cond) (x : Nat) (y : Nat) (h0 : Heap) (n0 : Nat) (Z0 : n0 ≤ h0.size) (hx_ : x ≤ 512) (hy_ : y ≤ 512) : own_Met l own_y37 jdk_29_method_65_code 2 (some .int) ws ⟨0, 0, 0, 0⟩ #[(.int (Int32.ofNat (x))), (.int (Int32.ofNat (y)))] Z h0 (Qmx Z x y h0 n0) := by
  refine own_met (Jvm.Free.JP.mathPlain rfl (by decide +kernel)) (fun p e s m below meth c s₁ hx hby hml hrt hlk hZ hown hnm X0 e0 es0 => ?_)
  have N0 := Fr.nil n0
  rw [ef_II_2 m (Int32.ofNat (x)) (Int32.ofNat (y))]
  refine own_gk (XS.iloadN X0.here hx rfl (hb hby d37_0) rfl) ?_
  refine own_gk (XS.iloadN X0.here hx rfl (hb hby d37_1) rfl) ?_
  by_cases hm : x < y
  · refine own_gk (XS.icmpYes X0.here hx rfl (pc0 := 2) (pc' := 9) rfl (hb hby d37_2) rfl (tlt (show (Int32.ofNat (x)) < (Int32.ofNat (y)) from ((own_ltN (a := x) (b := y) (by omega) (by omega)).mpr (by omega)))).1 (by decide) (by decide)) ?_
    refine own_gk (XS.iloadN X0.here hx rfl (hb hby d37_9) rfl) ?_
    obtain ⟨fs143, hr143, hrun143, hended143, hW143, hsame143⟩ := X0.leave (v := some (.int (Int32.ofNat (y)))) (fun h => by rw [hrt] at h; cases h)
    refine own_done (own_retI X0 hx hrt (hb hby d37_10) hr143) hrun143 hended143 ⟨_, _, rfl, ?_, ⟨_, rfl⟩, hW143, hsame143.mono (by decide) (by decide)⟩
    show Qmx Z x y h0 n0 _ s₁.heap _
    rw [e0]
    exact ⟨(congrArg (fun z => some (Value.int (Int32.ofNat z))) (show y = max x y by omega)), N0, rfl⟩
  · refine own_gk (XS.icmpNo X0.here hx rfl (hb hby d37_2) rfl (flt (show ¬ ((Int32.ofNat (x)) < (Int32.ofNat (y))) from (fun q => absurd ((own_ltN (a := x) (b := y) (by omega) (by omega)).mp q) (by omega)))).1) ?_
    refine own_gk (XS.iloadN X0.here hx rfl (hb hby d37_5) rfl) ?_
    refine own_gk (XS.goto X0.here hx rfl (pc0 := 6) (pc' := 10) rfl (hb hby d37_6) (by decide) (by decide)) ?_
    show own_Fin _ _ _ _ (s₁.setTop (mkF m 10 #[iv (Int32.ofNat (x)), iv (Int32.ofNat (y))] [(.int (Int32.ofNat (x)))]))
    obtain ⟨fs144, hr144, hrun144, hended144, hW144, hsame144⟩ := X0.leave (v := some (.int (Int32.ofNat (x)))) (fun h => by rw [hrt] at h; cases h)
    refine own_done (own_retI X0 hx hrt (hb hby d37_10) hr144) hrun144 hended144 ⟨_, _, rfl, ?_, ⟨_, rfl⟩, hW144, hsame144.mono (by decide) (by decide)⟩
    show Qmx Z x y h0 n0 _ s₁.heap _
    rw [e0]
    exact ⟨(congrArg (fun z => some (Value.int (Int32.ofNat z))) (show x = max x y by omega)), N0, rfl⟩
def Qmn1 (Z : State) (x : Nat) (y : Nat) (h0 : Heap) (n0 : Nat) (v : Option Value) (h : Heap) (L : List Loc) : Prop := v = some (.int (Int32.ofNat (x))) ∧ Fr n0 L ∧ h = h0
theorem d26_0 : decode jdk_29_method_69_code 0 = .ok (.iload_n 0, 1) := by decide +kernel
theorem d26_1 : decode jdk_29_method_69_code 1 = .ok (.iload_n 1, 1) := by decide +kernel
theorem d26_2 : decode jdk_29_method_69_code 2 = .ok (.if_icmp .gt 7, 3) := by decide +kernel
theorem d26_5 : decode jdk_29_method_69_code 5 = .ok (.iload_n 0, 1) := by decide +kernel
theorem d26_6 : decode jdk_29_method_69_code 6 = .ok (.goto 4, 3) := by decide +kernel
theorem d26_10 : decode jdk_29_method_69_code 10 = .ok (.ireturn, 1) := by decide +kernel
set_option maxRecDepth 65536 in
set_option maxHeartbeats 40000000 in
theorem rmmn1 (l : Launch) (Z : State) (a0 : Array Value) (hw : ∀ d ∈ tables_1, d.before a0 Z = true) (ws : List Jvm.Cond) (x : Nat) (y : Nat) (h0 : Heap) (n0 : Nat) (Z0 : n0 ≤ h0.size) (hx_ : x ≤ 512) (hy_ : y ≤ 512) (hm : x ≤ y) : own_Met l own_y26 jdk_29_method_69_code 2 (some .int) ws ⟨0, 0, 0, 0⟩ #[(.int (Int32.ofNat (x))), (.int (Int32.ofNat (y)))] Z h0 (Qmn1 Z x y h0 n0) := by
  refine own_met (Jvm.Free.JP.mathPlain rfl (by decide +kernel)) (fun p e s m below meth c s₁ hx hby hml hrt hlk hZ hown hnm X0 e0 es0 => ?_)
  have N0 := Fr.nil n0
  rw [ef_II_2 m (Int32.ofNat (x)) (Int32.ofNat (y))]
  refine own_gk (XS.iloadN X0.here hx rfl (hb hby d26_0) rfl) ?_
  refine own_gk (XS.iloadN X0.here hx rfl (hb hby d26_1) rfl) ?_
  refine own_gk (XS.icmpNo X0.here hx rfl (hb hby d26_2) rfl (flt (show ¬ ((Int32.ofNat (y)) < (Int32.ofNat (x))) from (fun q => absurd ((own_ltN (a := y) (b := x) (by omega) (by omega)).mp q) (by omega)))).2.2.1) ?_
  refine own_gk (XS.iloadN X0.here hx rfl (hb hby d26_5) rfl) ?_
  refine own_gk (XS.goto X0.here hx rfl (pc0 := 6) (pc' := 10) rfl (hb hby d26_6) (by decide) (by decide)) ?_
  show own_Fin _ _ _ _ (s₁.setTop (mkF m 10 #[iv (Int32.ofNat (x)), iv (Int32.ofNat (y))] [(.int (Int32.ofNat (x)))]))
  obtain ⟨fs145, hr145, hrun145, hended145, hW145, hsame145⟩ := X0.leave (v := some (.int (Int32.ofNat (x)))) (fun h => by rw [hrt] at h; cases h)
  refine own_done (own_retI X0 hx hrt (hb hby d26_10) hr145) hrun145 hended145 ⟨_, _, rfl, ?_, ⟨_, rfl⟩, hW145, hsame145.mono (by decide) (by decide)⟩
  show Qmn1 Z x y h0 n0 _ s₁.heap _
  rw [e0]
  exact ⟨rfl, N0, rfl⟩
def Qmn2 (Z : State) (x : Nat) (y : Nat) (h0 : Heap) (n0 : Nat) (v : Option Value) (h : Heap) (L : List Loc) : Prop := v = some (.int (Int32.ofNat (y))) ∧ Fr n0 L ∧ h = h0
theorem d26_9 : decode jdk_29_method_69_code 9 = .ok (.iload_n 1, 1) := by decide +kernel
set_option maxRecDepth 65536 in
set_option maxHeartbeats 40000000 in
theorem rmmn2 (l : Launch) (Z : State) (a0 : Array Value) (hw : ∀ d ∈ tables_1, d.before a0 Z = true) (ws : List Jvm.Cond) (x : Nat) (y : Nat) (h0 : Heap) (n0 : Nat) (Z0 : n0 ≤ h0.size) (hx_ : x ≤ 512) (hy_ : y ≤ 512) (hm : y < x) : own_Met l own_y26 jdk_29_method_69_code 2 (some .int) ws ⟨0, 0, 0, 0⟩ #[(.int (Int32.ofNat (x))), (.int (Int32.ofNat (y)))] Z h0 (Qmn2 Z x y h0 n0) := by
  refine own_met (Jvm.Free.JP.mathPlain rfl (by decide +kernel)) (fun p e s m below meth c s₁ hx hby hml hrt hlk hZ hown hnm X0 e0 es0 => ?_)
  have N0 := Fr.nil n0
  rw [ef_II_2 m (Int32.ofNat (x)) (Int32.ofNat (y))]
  refine own_gk (XS.iloadN X0.here hx rfl (hb hby d26_0) rfl) ?_
  refine own_gk (XS.iloadN X0.here hx rfl (hb hby d26_1) rfl) ?_
  refine own_gk (XS.icmpYes X0.here hx rfl (pc0 := 2) (pc' := 9) rfl (hb hby d26_2) rfl (tlt (show (Int32.ofNat (y)) < (Int32.ofNat (x)) from ((own_ltN (a := y) (b := x) (by omega) (by omega)).mpr (by omega)))).2.2.1 (by decide) (by decide)) ?_
  refine own_gk (XS.iloadN X0.here hx rfl (hb hby d26_9) rfl) ?_
  obtain ⟨fs146, hr146, hrun146, hended146, hW146, hsame146⟩ := X0.leave (v := some (.int (Int32.ofNat (y)))) (fun h => by rw [hrt] at h; cases h)
  refine own_done (own_retI X0 hx hrt (hb hby d26_10) hr146) hrun146 hended146 ⟨_, _, rfl, ?_, ⟨_, rfl⟩, hW146, hsame146.mono (by decide) (by decide)⟩
  show Qmn2 Z x y h0 n0 _ s₁.heap _
  rw [e0]
  exact ⟨rfl, N0, rfl⟩
theorem pn_jdk_internal_util_ArraysSupport : plainName "jdk/internal/util/ArraysSupport" = true := by first | (simp [plainName, overriddenIn]; done) | decide +kernel
theorem ef_III_4 (m : MethodId) (x0 : Int32) (x1 : Int32) (x2 : Int32) : entryFrame m #[(.int x0), (.int x1), (.int x2)] 4 = mkF m 0 #[.val (.int x0), .val (.int x1), .val (.int x2), .unset] [] := by first | (simp [entryFrame, mkF, argsToLocals, Value.category]; done) | rfl
def Qnle (Z : State) (x : Nat) (y : Nat) (z : Nat) (h0 : Heap) (n0 : Nat) (v : Option Value) (h : Heap) (L : List Loc) : Prop := v = some (.int (Int32.ofNat (x + max y z))) ∧ Fr n0 L ∧ h = h0
theorem d36_0 : decode jdk_48_method_27_code 0 = .ok (.iload_n 0, 1) := by decide +kernel
theorem d36_1 : decode jdk_48_method_27_code 1 = .ok (.iload_n 1, 1) := by decide +kernel
theorem d36_2 : decode jdk_48_method_27_code 2 = .ok (.iload_n 2, 1) := by decide +kernel
theorem d36_3 : decode jdk_48_method_27_code 3 = .ok (.invokestatic 194, 3) := by decide +kernel
theorem pd__28_II_29_I : parseMethodDescriptor "(II)I" = some ⟨[.int, .int], some .int⟩ := by decide +kernel
theorem d36_6 : decode jdk_48_method_27_code 6 = .ok (.iadd, 1) := by decide +kernel
theorem d36_7 : decode jdk_48_method_27_code 7 = .ok (.istore_n 3, 1) := by decide +kernel
theorem d36_8 : decode jdk_48_method_27_code 8 = .ok (.iconst 0, 1) := by decide +kernel
theorem d36_9 : decode jdk_48_method_27_code 9 = .ok (.iload_n 3, 1) := by decide +kernel
theorem d36_10 : decode jdk_48_method_27_code 10 = .ok (.if_icmp .ge 11, 3) := by decide +kernel
theorem d36_13 : decode jdk_48_method_27_code 13 = .ok (.iload_n 3, 1) := by decide +kernel
theorem d36_14 : decode jdk_48_method_27_code 14 = .ok (.ldc 200, 2) := by decide +kernel
theorem d36_16 : decode jdk_48_method_27_code 16 = .ok (.if_icmp .gt 5, 3) := by decide +kernel
theorem d36_19 : decode jdk_48_method_27_code 19 = .ok (.iload_n 3, 1) := by decide +kernel
theorem d36_20 : decode jdk_48_method_27_code 20 = .ok (.ireturn, 1) := by decide +kernel
set_option maxRecDepth 65536 in
set_option maxHeartbeats 40000000 in
theorem rmnle (l : Launch) (Z : State) (a0 : Array Value) (hw : ∀ d ∈ tables_1, d.before a0 Z = true) (ws : List Jvm.Cond) (x : Nat) (y : Nat) (z : Nat) (h0 : Heap) (n0 : Nat) (Z0 : n0 ≤ h0.size) (hx_ : x ≤ 200) (hy_ : y ≤ 200) (hz_ : z ≤ 300) (h1 : 1 ≤ x) : own_Met l own_y36 jdk_48_method_27_code 4 (some .int) ws ⟨1, 0, 0, 14⟩ #[(.int (Int32.ofNat (x))), (.int (Int32.ofNat (y))), (.int (Int32.ofNat (z)))] Z h0 (Qnle Z x y z h0 n0) := by
  refine own_met (plainFor_of_name pn_jdk_internal_util_ArraysSupport) (fun p e s m below meth c s₁ hx hby hml hrt hlk hZ hown hnm X0 e0 es0 => ?_)
  have N0 := Fr.nil n0
  rw [ef_III_4 m (Int32.ofNat (x)) (Int32.ofNat (y)) (Int32.ofNat (z))]
  refine own_gk (XS.iloadN X0.here hx rfl (hb hby d36_0) rfl) ?_
  refine own_gk (XS.iloadN X0.here hx rfl (hb hby d36_1) rfl) ?_
  refine own_gk (XS.iloadN X0.here hx rfl (hb hby d36_2) rfl) ?_
  obtain ⟨_, T147, Lc147, X147, hQ147, st147⟩ := own_callS X0 hx hZ hown (own_h hw 187 rfl) (own_h hw 188 rfl) (own_h hw 140 rfl) (own_h hw 189 rfl) (by decide) (rmmx l Z a0 hw [] y z h0 n0 Z0 (by omega) (by omega)) (W := 1) (by decide) (by decide) (g := (mkF m 3 #[iv (Int32.ofNat (x)), iv (Int32.ofNat (y)), iv (Int32.ofNat (z)), .unset] [(.int (Int32.ofNat (z))), (.int (Int32.ofNat (y))), (.int (Int32.ofNat (x)))])) rfl (by rw [hml]; rfl) (argsL := [(.int (Int32.ofNat (y))), (.int (Int32.ofNat (z)))]) (rest := [(.int (Int32.ofNat (x)))]) (lenOf pd__28_II_29_I rfl) rfl (Nat.le_of_eq rfl) (hb hby d36_3) rfl e0 (by decide) (by decide)
  obtain ⟨rfl, Nq147, e147⟩ := hQ147
  refine own_go st147 ?_
  have N147 := Fr.app N0 Nq147
  refine own_gk (XS.iadd X147.here hx rfl (hb hby d36_6) rfl) ?_
  show own_Fin _ _ _ _ (T147.setTop (mkF m 7 #[iv (Int32.ofNat (x)), iv (Int32.ofNat (y)), iv (Int32.ofNat (z)), .unset] [(.int ((Int32.ofNat (x)) + (Int32.ofNat (max y z))))]))
  rw [show ((Int32.ofNat (x)) + (Int32.ofNat (max y z))) = Int32.ofNat (x + (max y z)) from (own_addN x (max y z))]
  refine own_gk (XS.istoreN X147.here hx rfl (hb hby d36_7) rfl rfl) ?_
  refine own_gk (XS.iconst X147.here hx rfl (hb hby d36_8)) ?_
  refine own_gk (XS.iloadN X147.here hx rfl (hb hby d36_9) rfl) ?_
  refine own_gk (XS.icmpNo X147.here hx rfl (hb hby d36_10) rfl (tlt (show (0 : Int32) < (Int32.ofNat (x + (max y z))) from ((own_ltN (a := 0) (b := x + (max y z)) (by omega) (by omega)).mpr (by omega)))).2.1) ?_
  show own_Fin _ _ _ _ (T147.setTop (mkF m 13 #[iv (Int32.ofNat (x)), iv (Int32.ofNat (y)), iv (Int32.ofNat (z)), iv (Int32.ofNat (x + (max y z)))] []))
  refine own_gk (XS.iloadN X147.here hx rfl (hb hby d36_13) rfl) ?_
  refine own_by (X147.ldcInt hx hown (mvT hZ (own_h hw 190 rfl)) (g := (mkF m 14 #[iv (Int32.ofNat (x)), iv (Int32.ofNat (y)), iv (Int32.ofNat (z)), iv (Int32.ofNat (x + (max y z)))] [(.int (Int32.ofNat (x + (max y z))))])) rfl (hb hby d36_14)) ?_
  refine own_gk (XS.icmpNo X147.here hx rfl (hb hby d36_16) rfl (flt (show ¬ ((2147483639 : Int32) < (Int32.ofNat (x + (max y z)))) from (fun q => absurd ((own_ltN (a := 2147483639) (b := x + (max y z)) (by omega) (by omega)).mp q) (by omega)))).2.2.1) ?_
  refine own_gk (XS.iloadN X147.here hx rfl (hb hby d36_19) rfl) ?_
  obtain ⟨fs148, hr148, hrun148, hended148, hW148, hsame148⟩ := X147.leave (v := some (.int (Int32.ofNat (x + (max y z))))) (fun h => by rw [hrt] at h; cases h)
  refine own_done (own_retI X147 hx hrt (hb hby d36_20) hr148) hrun148 hended148 ⟨_, _, rfl, ?_, ⟨_, rfl⟩, hW148, hsame148.mono (by decide) (by decide)⟩
  show Qnle Z x y z h0 n0 _ T147.heap _
  rw [e147]
  exact ⟨rfl, N147, rfl⟩
theorem pn_java_util_Arrays : plainName "java/util/Arrays" = true := by first | (simp [plainName, overriddenIn]; done) | decide +kernel
theorem ef_RI_3 (m : MethodId) (x0 : Addr) (x1 : Int32) : entryFrame m #[(.ref x0), (.int x1)] 3 = mkF m 0 #[.val (.ref x0), .val (.int x1), .unset] [] := by first | (simp [entryFrame, mkF, argsToLocals, Value.category]; done) | rfl
def Qcpo (Z : State) (a1 : Addr) (k : ClassId) (LL : Nat) (f : Nat → Int32) (M : Nat) (h0 : Heap) (n0 : Nat) (v : Option Value) (h : Heap) (L : List Loc) : Prop := ∃ (b : Addr) (kb : ClassId), v = some (.ref b) ∧ Fr n0 L ∧ Keep h0 h [] ∧ n0 ≤ b ∧ h0.size ≤ b ∧ Arv Z h b kb .byte (Int32.ofNat (M)) (List.map Value.int (own_R (own_cpf (fun _ => (0 : Int32)) f 0 0 LL) M)) (.int (0 : Int32))
theorem d38_0 : decode jdk_65_method_121_code 0 = .ok (.iload_n 1, 1) := by decide +kernel
theorem d38_1 : decode jdk_65_method_121_code 1 = .ok (.aload_n 0, 1) := by decide +kernel
theorem d38_2 : decode jdk_65_method_121_code 2 = .ok (.arraylength, 1) := by decide +kernel
theorem d38_3 : decode jdk_65_method_121_code 3 = .ok (.if_icmp .ne 11, 3) := by decide +kernel
theorem d38_14 : decode jdk_65_method_121_code 14 = .ok (.iload_n 1, 1) := by decide +kernel
theorem d38_15 : decode jdk_65_method_121_code 15 = .ok (.newarray .byte, 2) := by decide +kernel
theorem d38_17 : decode jdk_65_method_121_code 17 = .ok (.astore_n 2, 1) := by decide +kernel
theorem d38_18 : decode jdk_65_method_121_code 18 = .ok (.aload_n 0, 1) := by decide +kernel
theorem d38_19 : decode jdk_65_method_121_code 19 = .ok (.iconst 0, 1) := by decide +kernel
theorem d38_20 : decode jdk_65_method_121_code 20 = .ok (.aload_n 2, 1) := by decide +kernel
theorem d38_21 : decode jdk_65_method_121_code 21 = .ok (.iconst 0, 1) := by decide +kernel
theorem d38_22 : decode jdk_65_method_121_code 22 = .ok (.aload_n 0, 1) := by decide +kernel
theorem d38_23 : decode jdk_65_method_121_code 23 = .ok (.arraylength, 1) := by decide +kernel
theorem d38_24 : decode jdk_65_method_121_code 24 = .ok (.iload_n 1, 1) := by decide +kernel
theorem d38_25 : decode jdk_65_method_121_code 25 = .ok (.invokestatic 304, 3) := by decide +kernel
theorem d38_28 : decode jdk_65_method_121_code 28 = .ok (.invokestatic 150, 3) := by decide +kernel
theorem d38_31 : decode jdk_65_method_121_code 31 = .ok (.aload_n 2, 1) := by decide +kernel
theorem d38_32 : decode jdk_65_method_121_code 32 = .ok (.areturn, 1) := by decide +kernel
set_option maxRecDepth 65536 in
set_option maxHeartbeats 40000000 in
theorem rmcpo (l : Launch) (Z : State) (a0 : Array Value) (hw : ∀ d ∈ tables_1, d.before a0 Z = true) (ws : List Jvm.Cond) (a1 : Addr) (k : ClassId) (LL : Nat) (f : Nat → Int32) (M : Nat) (h0 : Heap) (n0 : Nat) (Z0 : n0 ≤ h0.size) (V_a1 : Arv Z h0 a1 k .byte (Int32.ofNat (LL)) (List.map Value.int (own_R f LL)) (.int (0 : Int32))) (hL : LL < M) (hM : M ≤ 256) : own_Met l own_y38 jdk_65_method_121_code 3 (some (.array .byte)) ws ⟨1, 1, 256, 40⟩ #[(.ref a1), (.int (Int32.ofNat (M)))] Z h0 (Qcpo Z a1 k LL f M h0 n0) := by
  refine own_met (plainFor_of_name pn_java_util_Arrays) (fun p e s m below meth c s₁ hx hby hml hrt hlk hZ hown hnm X0 e0 es0 => ?_)
  have N0 := Fr.nil n0
  rw [ef_RI_3 m a1 (Int32.ofNat (M))]
  have Kz := Keep.refl h0 []
  refine own_gk (XS.iloadN X0.here hx rfl (hb hby d38_0) rfl) ?_
  refine own_gk (XS.aloadN X0.here hx rfl (hb hby d38_1) rfl rfl) ?_
  obtain ⟨cl149, Ar149, qa149, Sa149, Na149, Ha149, Ga149⟩ := id V_a1
  refine own_by (X0.arraylength hx (by rw [e0]; exact Ar149.1) (State.isArrayOf_alike hZ.alike Ar149.2.1) (g := (mkF m 2 #[rv a1, iv (Int32.ofNat (M)), .unset] [(.ref a1), (.int (Int32.ofNat (M)))])) rfl rfl (hb hby d38_2)) ?_
  rw [len_of Sa149 Na149]
  refine own_gk (XS.icmpYes X0.here hx rfl (pc0 := 3) (pc' := 14) rfl (hb hby d38_3) rfl (feq (show ¬ ((Int32.ofNat (M)) = (Int32.ofNat (LL))) from (fun q => absurd ((own_eqN (a := M) (b := LL) (by omega) (by omega)).mp q) (by omega)))).2 (by decide) (by decide)) ?_
  refine own_gk (XS.iloadN X0.here hx rfl (hb hby d38_14) rfl) ?_
  show own_Fin _ _ _ _ (s₁.setTop (mkF m 15 #[rv a1, iv (Int32.ofNat (M)), .unset] [(.int (Int32.ofNat (M)))]))
  obtain ⟨T150, h150, k150, X150, e150, E150, A150, st150⟩ := newP X0 hx hZ (own_h hw 19 rfl) e0 (g := (mkF m 15 #[rv a1, iv (Int32.ofNat (M)), .unset] [(.int (Int32.ofNat (M)))])) rfl (hb hby d38_15) (n := (Int32.ofNat (M))) rfl (own_nn (a := M) (by omega)) (cap := 256) (Nat.le_trans (Nat.le_of_eq (own_tn (a := M) (by omega))) (by omega)) (by decide) (by decide) (by decide)
  obtain ⟨b150, g150⟩ : ∃ z, z = h0.size := ⟨_, rfl⟩
  rw [← g150] at A150 st150
  refine own_by st150 ?_
  have ne_a1_b150 : a1 ≠ b150 := Nat.ne_of_lt (Nat.lt_of_lt_of_eq V_a1.lt g150.symm)
  have V_a1_150 := V_a1.ext E150
  have g_b150 : n0 ≤ b150 := Nat.le_trans Z0 (Nat.le_of_eq g150.symm)
  have sz_b150 : h0.size ≤ b150 := Nat.le_trans Kz.1 (Nat.le_of_eq g150.symm)
  have K150 := Kz.ext E150
  have Z150 : n0 ≤ h150.size := Nat.le_trans Z0 E150.1
  have V_b150 : Arv Z h150 b150 k150 .byte (Int32.ofNat (M)) (List.map Value.int (own_R ((fun _ => (0 : Int32))) M)) (.int (0 : Int32)) := (Arv.new A150 (own_nn (a := M) (by omega))).pad (own_pad0 _)
  refine own_gk (XS.astoreN X150.here hx rfl (hb hby d38_17) rfl rfl rfl) ?_
  refine own_gk (XS.aloadN X150.here hx rfl (hb hby d38_18) rfl rfl) ?_
  refine own_gk (XS.iconst X150.here hx rfl (hb hby d38_19)) ?_
  refine own_gk (XS.aloadN X150.here hx rfl (hb hby d38_20) rfl rfl) ?_
  show own_Fin _ _ _ _ (T150.setTop (mkF m 21 #[rv a1, iv (Int32.ofNat (M)), rv b150] [(.ref b150), (.int (0 : Int32)), (.ref a1)]))
  refine own_gk (XS.iconst X150.here hx rfl (hb hby d38_21)) ?_
  refine own_gk (XS.aloadN X150.here hx rfl (hb hby d38_22) rfl rfl) ?_
  obtain ⟨cl151, Ar151, qa151, Sa151, Na151, Ha151, Ga151⟩ := id V_a1_150
  refine own_by (X150.arraylength hx (by rw [e150]; exact Ar151.1) (State.isArrayOf_alike hZ.alike Ar151.2.1) (g := (mkF m 23 #[rv a1, iv (Int32.ofNat (M)), rv b150] [(.ref a1), (.int (0 : Int32)), (.ref b150), (.int (0 : Int32)), (.ref a1)])) rfl rfl (hb hby d38_23)) ?_
  rw [len_of Sa151 Na151]
  refine own_gk (XS.iloadN X150.here hx rfl (hb hby d38_24) rfl) ?_
  obtain ⟨_, T152, Lc152, X152, hQ152, st152⟩ := own_callS X150 hx hZ hown (own_h hw 138 rfl) (own_h hw 139 rfl) (own_h hw 140 rfl) (own_h hw 141 rfl) (by decide) (rmmn1 l Z a0 hw [] LL M h150 n0 Z150 (by omega) (by omega) (by omega)) (W := 4) (by decide) (by decide) (g := (mkF m 25 #[rv a1, iv (Int32.ofNat (M)), rv b150] [(.int (Int32.ofNat (M))), (.int (Int32.ofNat (LL))), (.int (0 : Int32)), (.ref b150), (.int (0 : Int32)), (.ref a1)])) rfl (by rw [hml]; rfl) (argsL := [(.int (Int32.ofNat (LL))), (.int (Int32.ofNat (M)))]) (rest := [(.int (0 : Int32)), (.ref b150), (.int (0 : Int32)), (.ref a1)]) (lenOf pd__28_II_29_I rfl) rfl (Nat.le_of_eq rfl) (hb hby d38_25) rfl e150 (by decide) (by decide)
  obtain ⟨rfl, Nq152, e152⟩ := hQ152
  refine own_go st152 ?_
  have N152 := Fr.app N0 Nq152
  show own_Fin _ _ _ _ (T152.setTop (mkF m 28 #[rv a1, iv (Int32.ofNat (M)), rv b150] [(.int (Int32.ofNat (LL))), (.int (0 : Int32)), (.ref b150), (.int (0 : Int32)), (.ref a1)]))
  obtain ⟨T153, _, L153, X153, rfl, N153, K153, Vc153, st153⟩ := cpA X152 hx hZ hown (own_h hw 142 rfl) (own_h hw 97 rfl) (own_h hw 95 rfl) (own_h hw 96 rfl) e152 V_a1_150 V_b150 (Or.inl ⟨rfl, rfl⟩) (own_nn (a := 0) (by omega)) (own_nn (a := 0) (by omega)) (own_nn (a := LL) (by omega)) (own_le3 (a := 0) (b := LL) (c := LL) (by omega) (by omega) (by omega) (by omega)) (own_le3 (a := 0) (b := LL) (c := M) (by omega) (by omega) (by omega) (by omega)) rfl (own_le2 (a := 0) (b := LL) (n := M) (by omega) (by omega) (by omega)) N152 g_b150 (g := (mkF m 28 #[rv a1, iv (Int32.ofNat (M)), rv b150] [(.int (Int32.ofNat (LL))), (.int (0 : Int32)), (.ref b150), (.int (0 : Int32)), (.ref a1)])) rfl (by rw [hml]; rfl) rfl (hb hby d38_28) (by decide) (W := 0) (by show 2 * 0 + _ ≤ _; exact Nat.le_of_eq rfl) (by decide)
  refine own_by st153 ?_
  have V_a1_153 := V_a1_150.keep K153 (ninS ne_a1_b150 nin0)
  have Z153 : n0 ≤ T153.heap.size := Nat.le_trans Z150 K153.1
  have Kt153 := K150.trans K153 (allS (P := fun x => x ∈ _ ∨ _ ≤ x) (Or.inr sz_b150) all0)
  have V_b150_c153 : Arv Z T153.heap b150 k150 .byte (Int32.ofNat (M)) (List.map Value.int (own_R (own_cpf ((fun _ => (0 : Int32))) f 0 0 LL) M)) (.int (0 : Int32)) := own_arvc Vc153 (own_cpR (f := f) (g := (fun _ => (0 : Int32))) (n := LL) (m := M) (sp := 0) (dp := 0) (nn := LL) (by omega) (by omega) (by omega) (by omega))
  refine own_gk (XS.aloadN X153.here hx rfl (hb hby d38_31) rfl rfl) ?_
  obtain ⟨fs154, hr154, hrun154, hended154, hW154, hsame154⟩ := X153.leave (v := some (.ref b150)) (fun h => by rw [hrt] at h; cases h)
  refine own_done (retOut X153 hx hrt rfl (Or.inr (Or.inr (Or.inr (Or.inr ⟨rfl, rfl, rfl⟩)))) (hb hby d38_32) hr154) hrun154 hended154 ⟨_, _, rfl, ?_, ⟨_, rfl⟩, hW154, hsame154.mono (by decide) (by decide)⟩
  show Qcpo Z a1 k LL f M h0 n0 _ T153.heap _
  exact ⟨b150, k150, rfl, N153, Kt153, g_b150, sz_b150, V_b150_c153⟩
theorem ef_RI_6 (m : MethodId) (x0 : Addr) (x1 : Int32) : entryFrame m #[(.ref x0), (.int x1)] 6 = mkF m 0 #[.val (.ref x0), .val (.int x1), .unset, .unset, .unset, .unset] [] := by first | (simp [entryFrame, mkF, argsToLocals, Value.category]; done) | rfl
def Qnc_0 (Z : State) (a1 : Addr) (va : Addr) (kv : ClassId) (cc : Nat) (cnt : Nat) (f : Nat → Int32) (mm : Nat) (h0 : Heap) (n0 : Nat) (v : Option Value) (h : Heap) (L : List Loc) : Prop := v = some (.int (Int32.ofNat (max mm (2 * cc + 2)))) ∧ Fr n0 L ∧ h = h0
theorem d35_0 : decode jdk_68_method_10_code 0 = .ok (.aload_n 0, 1) := by decide +kernel
theorem d35_1 : decode jdk_68_method_10_code 1 = .ok (.getfield 15, 3) := by decide +kernel
theorem d35_4 : decode jdk_68_method_10_code 4 = .ok (.arraylength, 1) := by decide +kernel
theorem d35_5 : decode jdk_68_method_10_code 5 = .ok (.istore_n 2, 1) := by decide +kernel
theorem d35_6 : decode jdk_68_method_10_code 6 = .ok (.iload_n 1, 1) := by decide +kernel
theorem d35_7 : decode jdk_68_method_10_code 7 = .ok (.aload_n 0, 1) := by decide +kernel
theorem d35_8 : decode jdk_68_method_10_code 8 = .ok (.getfield 22, 3) := by decide +kernel
theorem d35_11 : decode jdk_68_method_10_code 11 = .ok (.ishl, 1) := by decide +kernel
theorem d35_12 : decode jdk_68_method_10_code 12 = .ok (.istore_n 3, 1) := by decide +kernel
theorem d35_13 : decode jdk_68_method_10_code 13 = .ok (.iload_n 3, 1) := by decide +kernel
theorem d35_14 : decode jdk_68_method_10_code 14 = .ok (.iload_n 2, 1) := by decide +kernel
theorem d35_15 : decode jdk_68_method_10_code 15 = .ok (.isub, 1) := by decide +kernel
theorem d35_16 : decode jdk_68_method_10_code 16 = .ok (.istore 4, 2) := by decide +kernel
theorem d35_18 : decode jdk_68_method_10_code 18 = .ok (.iload_n 2, 1) := by decide +kernel
theorem d35_19 : decode jdk_68_method_10_code 19 = .ok (.iload 4, 2) := by decide +kernel
theorem d35_21 : decode jdk_68_method_10_code 21 = .ok (.iload_n 2, 1) := by decide +kernel
theorem d35_22 : decode jdk_68_method_10_code 22 = .ok (.iconst 2, 1) := by decide +kernel
theorem d35_23 : decode jdk_68_method_10_code 23 = .ok (.aload_n 0, 1) := by decide +kernel
theorem d35_24 : decode jdk_68_method_10_code 24 = .ok (.getfield 22, 3) := by decide +kernel
theorem d35_27 : decode jdk_68_method_10_code 27 = .ok (.ishl, 1) := by decide +kernel
theorem d35_28 : decode jdk_68_method_10_code 28 = .ok (.iadd, 1) := by decide +kernel
theorem d35_29 : decode jdk_68_method_10_code 29 = .ok (.invokestatic 114, 3) := by decide +kernel
theorem pd__28_III_29_I : parseMethodDescriptor "(III)I" = some ⟨[.int, .int, .int], some .int⟩ := by decide +kernel
theorem d35_32 : decode jdk_68_method_10_code 32 = .ok (.istore 5, 2) := by decide +kernel
theorem d35_34 : decode jdk_68_method_10_code 34 = .ok (.iload 5, 2) := by decide +kernel
theorem d35_36 : decode jdk_68_method_10_code 36 = .ok (.ldc 39, 2) := by decide +kernel
theorem d35_38 : decode jdk_68_method_10_code 38 = .ok (.if_icmp .ne 13, 3) := by decide +kernel
theorem d35_51 : decode jdk_68_method_10_code 51 = .ok (.iload 5, 2) := by decide +kernel
theorem d35_53 : decode jdk_68_method_10_code 53 = .ok (.aload_n 0, 1) := by decide +kernel
theorem d35_54 : decode jdk_68_method_10_code 54 = .ok (.getfield 22, 3) := by decide +kernel
theorem d35_57 : decode jdk_68_method_10_code 57 = .ok (.ishr, 1) := by decide +kernel
theorem d35_58 : decode jdk_68_method_10_code 58 = .ok (.ireturn, 1) := by decide +kernel
set_option maxRecDepth 65536 in
set_option maxHeartbeats 40000000 in
theorem rmnc_0 (l : Launch) (Z : State) (a0 : Array Value) (hw : ∀ d ∈ tables_1, d.before a0 Z = true) (ws : List Jvm.Cond) (a1 : Addr) (va : Addr) (kv : ClassId) (cc : Nat) (cnt : Nat) (f : Nat → Int32) (mm : Nat) (h0 : Heap) (n0 : Nat) (Z0 : n0 ≤ h0.size) (E_a1 : Exa Z h0 a1 "java/lang/StringBuilder") (F_value_a1 : Fld Z h0 a1 "java/lang/AbstractStringBuilder" "value" "[B" (.ref va)) (F_count_a1 : Fld Z h0 a1 "java/lang/AbstractStringBuilder" "count" "I" (.int (Int32.ofNat (cnt)))) (F_coder_a1 : Fld Z h0 a1 "java/lang/AbstractStringBuilder" "coder" "B" (.int (0 : Int32))) (F_maybeLatin1_a1 : Fld Z h0 a1 "java/lang/AbstractStringBuilder" "maybeLatin1" "Z" (.int (0 : Int32))) (V_va : Arv Z h0 va kv .byte (Int32.ofNat (cc)) (List.map Value.int (own_R f cc)) (.int (0 : Int32))) (g_a1 : n0 ≤ a1) (g_va : n0 ≤ va) (hcc : 16 ≤ cc) (hc2 : cc ≤ 90) (hm2 : mm ≤ 90) (hg : cc < mm) : own_Met l own_y35 jdk_68_method_10_code 6 (some .int) ws ⟨2, 0, 0, 29⟩ #[(.ref a1), (.int (Int32.ofNat (mm)))] Z h0 (Qnc_0 Z a1 va kv cc cnt f mm h0 n0) := by
  refine own_met (plainFor_of_name pn_java_lang_AbstractStringBuilder) (fun p e s m below meth c s₁ hx hby hml hrt hlk hZ hown hnm X0 e0 es0 => ?_)
  have N0 := Fr.nil n0
  rw [ef_RI_6 m a1 (Int32.ofNat (mm))]
  refine own_gk (XS.aloadN X0.here hx rfl (hb hby d35_0) rfl rfl) ?_
  obtain ⟨T155, X155, e155, st155⟩ := getF X0 hx hZ hown (host := "") (Or.inl (own_h hw 55 rfl)) Via.refl e0 F_value_a1 (g := (mkF m 1 #[rv a1, iv (Int32.ofNat (mm)), .unset, .unset, .unset, .unset] [(.ref a1)])) rfl rfl (hb hby d35_1)
  refine own_by st155 ?_
  obtain ⟨cl156, Ar156, qa156, Sa156, Na156, Ha156, Ga156⟩ := id V_va
  refine own_by (X155.arraylength hx (by rw [e155]; exact Ar156.1) (State.isArrayOf_alike hZ.alike Ar156.2.1) (g := (mkF m 4 #[rv a1, iv (Int32.ofNat (mm)), .unset, .unset, .unset, .unset] [(.ref va)])) rfl rfl (hb hby d35_4)) ?_
  rw [len_of Sa156 Na156]
  refine own_gk (XS.istoreN X155.here hx rfl (hb hby d35_5) rfl rfl) ?_
  refine own_gk (XS.iloadN X155.here hx rfl (hb hby d35_6) rfl) ?_
  show own_Fin _ _ _ _ (T155.setTop (mkF m 7 #[rv a1, iv (Int32.ofNat (mm)), iv (Int32.ofNat (cc)), .unset, .unset, .unset] [(.int (Int32.ofNat (mm)))]))
  refine own_gk (XS.aloadN X155.here hx rfl (hb hby d35_7) rfl rfl) ?_
  obtain ⟨T157, X157, e157, st157⟩ := getF X155 hx hZ hown (host := "") (Or.inl (own_h hw 57 rfl)) Via.refl e155 F_coder_a1 (g := (mkF m 8 #[rv a1, iv (Int32.ofNat (mm)), iv (Int32.ofNat (cc)), .unset, .unset, .unset] [(.ref a1), (.int (Int32.ofNat (mm)))])) rfl rfl (hb hby d35_8)
  refine own_by st157 ?_
  refine own_gk (XS.ishl X157.here hx rfl (hb hby d35_11) rfl) ?_
  show own_Fin _ _ _ _ (T157.setTop (mkF m 12 #[rv a1, iv (Int32.ofNat (mm)), iv (Int32.ofNat (cc)), .unset, .unset, .unset] [(.int ((Int32.ofNat (mm)) <<< ((0 : Int32) &&& 31)))]))
  rw [show ((Int32.ofNat (mm)) <<< ((0 : Int32) &&& 31)) = Int32.ofNat (mm) from (own_shl0 (a := mm) (by omega))]
  refine own_gk (XS.istoreN X157.here hx rfl (hb hby d35_12) rfl rfl) ?_
  refine own_gk (XS.iloadN X157.here hx rfl (hb hby d35_13) rfl) ?_
  refine own_gk (XS.iloadN X157.here hx rfl (hb hby d35_14) rfl) ?_
  refine own_gk (XS.isub X157.here hx rfl (hb hby d35_15) rfl) ?_
  show own_Fin _ _ _ _ (T157.setTop (mkF m 16 #[rv a1, iv (Int32.ofNat (mm)), iv (Int32.ofNat (cc)), iv (Int32.ofNat (mm)), .unset, .unset] [(.int ((Int32.ofNat (mm)) - (Int32.ofNat (cc))))]))
  rw [show ((Int32.ofNat (mm)) - (Int32.ofNat (cc))) = Int32.ofNat (mm - cc) from ((own_subN (a := mm) (b := cc) (by omega)).trans (congrArg Int32.ofNat (by omega)))]
  refine own_gk (XS.istore X157.here hx rfl (hb hby d35_16) rfl rfl) ?_
  refine own_gk (XS.iloadN X157.here hx rfl (hb hby d35_18) rfl) ?_
  refine own_gk (XS.iload X157.here hx rfl (hb hby d35_19) rfl) ?_
  refine own_gk (XS.iloadN X157.here hx rfl (hb hby d35_21) rfl) ?_
  show own_Fin _ _ _ _ (T157.setTop (mkF m 22 #[rv a1, iv (Int32.ofNat (mm)), iv (Int32.ofNat (cc)), iv (Int32.ofNat (mm)), iv (Int32.ofNat (mm - cc)), .unset] [(.int (Int32.ofNat (cc))), (.int (Int32.ofNat (mm - cc))), (.int (Int32.ofNat (cc)))]))
  refine own_gk (XS.iconst X157.here hx rfl (hb hby d35_22)) ?_
  refine own_gk (XS.aloadN X157.here hx rfl (hb hby d35_23) rfl rfl) ?_
  obtain ⟨T158, X158, e158, st158⟩ := getF X157 hx hZ hown (host := "") (Or.inl (own_h hw 57 rfl)) Via.refl e157 F_coder_a1 (g := (mkF m 24 #[rv a1, iv (Int32.ofNat (mm)), iv (Int32.ofNat (cc)), iv (Int32.ofNat (mm)), iv (Int32.ofNat (mm - cc)), .unset] [(.ref a1), (.int (2 : Int32)), (.int (Int32.ofNat (cc))), (.int (Int32.ofNat (mm - cc))), (.int (Int32.ofNat (cc)))])) rfl rfl (hb hby d35_24)
  refine own_by st158 ?_
  refine own_gk (XS.ishl X158.here hx rfl (hb hby d35_27) rfl) ?_
  refine own_gk (XS.iadd X158.here hx rfl (hb hby d35_28) rfl) ?_
  show own_Fin _ _ _ _ (T158.setTop (mkF m 29 #[rv a1, iv (Int32.ofNat (mm)), iv (Int32.ofNat (cc)), iv (Int32.ofNat (mm)), iv (Int32.ofNat (mm - cc)), .unset] [(.int ((Int32.ofNat (cc)) + (2 : Int32))), (.int (Int32.ofNat (mm - cc))), (.int (Int32.ofNat (cc)))]))
  rw [show ((Int32.ofNat (cc)) + (2 : Int32)) = Int32.ofNat (cc + 2) from (own_addN cc 2)]
  obtain ⟨_, T159, Lc159, X159, hQ159, st159⟩ := own_callS X158 hx hZ hown (own_h hw 183 rfl) (own_h hw 184 rfl) (own_h hw 185 rfl) (own_h hw 186 rfl) (by decide) (rmnle l Z a0 hw [] cc (mm - cc) (cc + 2) h0 n0 Z0 (by omega) (by omega) (by omega) (by omega)) (W := 0) (by decide) (by decide) (g := (mkF m 29 #[rv a1, iv (Int32.ofNat (mm)), iv (Int32.ofNat (cc)), iv (Int32.ofNat (mm)), iv (Int32.ofNat (mm - cc)), .unset] [(.int (Int32.ofNat (cc + 2))), (.int (Int32.ofNat (mm - cc))), (.int (Int32.ofNat (cc)))])) rfl (by rw [hml]; rfl) (argsL := [(.int (Int32.ofNat (cc))), (.int (Int32.ofNat (mm - cc))), (.int (Int32.ofNat (cc + 2)))]) (rest := []) (lenOf pd__28_III_29_I rfl) rfl (Nat.le_of_eq rfl) (hb hby d35_29) rfl e158 (by decide) (by decide)
  obtain ⟨rfl, Nq159, e159⟩ := hQ159
  refine own_go st159 ?_
  have N159 := Fr.app N0 Nq159
  refine own_gk (XS.istore X159.here hx rfl (hb hby d35_32) rfl rfl) ?_
  refine own_gk (XS.iload X159.here hx rfl (hb hby d35_34) rfl) ?_
  refine own_by (X159.ldcInt hx hown (mvT hZ (own_h hw 191 rfl)) (g := (mkF m 36 #[rv a1, iv (Int32.ofNat (mm)), iv (Int32.ofNat (cc)), iv (Int32.ofNat (mm)), iv (Int32.ofNat (mm - cc)), iv (Int32.ofNat (cc + max (mm - cc) (cc + 2)))] [(.int (Int32.ofNat (cc + max (mm - cc) (cc + 2))))])) rfl (hb hby d35_36)) ?_
  show own_Fin _ _ _ _ (T159.setTop (mkF m 38 #[rv a1, iv (Int32.ofNat (mm)), iv (Int32.ofNat (cc)), iv (Int32.ofNat (mm)), iv (Int32.ofNat (mm - cc)), iv (Int32.ofNat (cc + max (mm - cc) (cc + 2)))] [(.int (2147483647 : Int32)), (.int (Int32.ofNat (cc + max (mm - cc) (cc + 2))))]))
  refine own_gk (XS.icmpYes X159.here hx rfl (pc0 := 38) (pc' := 51) rfl (hb hby d35_38) rfl (feq (show ¬ ((Int32.ofNat (cc + max (mm - cc) (cc + 2))) = (2147483647 : Int32)) from (fun q => absurd ((own_eqN (a := cc + max (mm - cc) (cc + 2)) (b := 2147483647) (by omega) (by omega)).mp q) (by omega)))).2 (by decide) (by decide)) ?_
  refine own_gk (XS.iload X159.here hx rfl (hb hby d35_51) rfl) ?_
  refine own_gk (XS.aloadN X159.here hx rfl (hb hby d35_53) rfl rfl) ?_
  obtain ⟨T160, X160, e160, st160⟩ := getF X159 hx hZ hown (host := "") (Or.inl (own_h hw 57 rfl)) Via.refl e159 F_coder_a1 (g := (mkF m 54 #[rv a1, iv (Int32.ofNat (mm)), iv (Int32.ofNat (cc)), iv (Int32.ofNat (mm)), iv (Int32.ofNat (mm - cc)), iv (Int32.ofNat (cc + max (mm - cc) (cc + 2)))] [(.ref a1), (.int (Int32.ofNat (cc + max (mm - cc) (cc + 2))))])) rfl rfl (hb hby d35_54)
  refine own_by st160 ?_
  refine own_gk (XS.ishr X160.here hx rfl (hb hby d35_57) rfl) ?_
  show own_Fin _ _ _ _ (T160.setTop (mkF m 58 #[rv a1, iv (Int32.ofNat (mm)), iv (Int32.ofNat (cc)), iv (Int32.ofNat (mm)), iv (Int32.ofNat (mm - cc)), iv (Int32.ofNat (cc + max (mm - cc) (cc + 2)))] [(.int ((Int32.ofNat (cc + max (mm - cc) (cc + 2))) >>> ((0 : Int32) &&& 31)))]))
  rw [show ((Int32.ofNat (cc + max (mm - cc) (cc + 2))) >>> ((0 : Int32) &&& 31)) = Int32.ofNat (cc + max (mm - cc) (cc + 2)) from (own_shr0 (a := cc + max (mm - cc) (cc + 2)) (by omega))]
  obtain ⟨fs161, hr161, hrun161, hended161, hW161, hsame161⟩ := X160.leave (v := some (.int (Int32.ofNat (cc + max (mm - cc) (cc + 2))))) (fun h => by rw [hrt] at h; cases h)
  refine own_done (own_retI X160 hx hrt (hb hby d35_58) hr161) hrun161 hended161 ⟨_, _, rfl, ?_, ⟨_, rfl⟩, hW161, hsame161.mono (by decide) (by decide)⟩
  show Qnc_0 Z a1 va kv cc cnt f mm h0 n0 _ T160.heap _
  rw [e160]
  exact ⟨(congrArg (fun z => some (Value.int (Int32.ofNat z))) (show cc + max (mm - cc) (cc + 2) = max mm (2 * cc + 2) by omega)), N159, rfl⟩
def QecN_0 (Z : State) (a1 : Addr) (va : Addr) (kv : ClassId) (cc : Nat) (cnt : Nat) (f : Nat → Int32) (mm : Nat) (h0 : Heap) (n0 : Nat) (v : Option Value) (h : Heap) (L : List Loc) : Prop := v = none ∧ Fr n0 L ∧ h = h0
theorem d12_0 : decode jdk_68_method_9_code 0 = .ok (.aload_n 0, 1) := by decide +kernel
theorem d12_1 : decode jdk_68_method_9_code 1 = .ok (.getfield 15, 3) := by decide +kernel
theorem d12_4 : decode jdk_68_method_9_code 4 = .ok (.arraylength, 1) := by decide +kernel
theorem d12_5 : decode jdk_68_method_9_code 5 = .ok (.aload_n 0, 1) := by decide +kernel
theorem d12_6 : decode jdk_68_method_9_code 6 = .ok (.getfield 22, 3) := by decide +kernel
theorem d12_9 : decode jdk_68_method_9_code 9 = .ok (.ishr, 1) := by decide +kernel
theorem d12_10 : decode jdk_68_method_9_code 10 = .ok (.istore_n 2, 1) := by decide +kernel
theorem d12_11 : decode jdk_68_method_9_code 11 = .ok (.iload_n 1, 1) := by decide +kernel
theorem d12_12 : decode jdk_68_method_9_code 12 = .ok (.iload_n 2, 1) := by decide +kernel
theorem d12_13 : decode jdk_68_method_9_code 13 = .ok (.isub, 1) := by decide +kernel
theorem d12_14 : decode jdk_68_method_9_code 14 = .ok (.ifCond .le 24, 3) := by decide +kernel
theorem d12_38 : decode jdk_68_method_9_code 38 = .ok (.return_, 1) := by decide +kernel
set_option maxRecDepth 65536 in
set_option maxHeartbeats 40000000 in
theorem rmecN_0 (l : Launch) (Z : State) (a0 : Array Value) (hw : ∀ d ∈ tables_1, d.before a0 Z = true) (ws : List Jvm.Cond) (a1 : Addr) (va : Addr) (kv : ClassId) (cc : Nat) (cnt : Nat) (f : Nat → Int32) (mm : Nat) (h0 : Heap) (n0 : Nat) (Z0 : n0 ≤ h0.size) (E_a1 : Exa Z h0 a1 "java/lang/StringBuilder") (F_value_a1 : Fld Z h0 a1 "java/lang/AbstractStringBuilder" "value" "[B" (.ref va)) (F_count_a1 : Fld Z h0 a1 "java/lang/AbstractStringBuilder" "count" "I" (.int (Int32.ofNat (cnt)))) (F_coder_a1 : Fld Z h0 a1 "java/lang/AbstractStringBuilder" "coder" "B" (.int (0 : Int32))) (F_maybeLatin1_a1 : Fld Z h0 a1 "java/lang/AbstractStringBuilder" "maybeLatin1" "Z" (.int (0 : Int32))) (V_va : Arv Z h0 va kv .byte (Int32.ofNat (cc)) (List.map Value.int (own_R f cc)) (.int (0 : Int32))) (g_a1 : n0 ≤ a1) (g_va : n0 ≤ va) (hcc : 16 ≤ cc) (hc2 : cc ≤ 90) (hm2 : mm ≤ 90) (hg : mm ≤ cc) : own_Met l own_y12 jdk_68_method_9_code 3 none ws ⟨0, 0, 0, 0⟩ #[(.ref a1), (.int (Int32.ofNat (mm)))] Z h0 (QecN_0 Z a1 va kv cc cnt f mm h0 n0) := by
  refine own_met (plainFor_of_name pn_java_lang_AbstractStringBuilder) (fun p e s m below meth c s₁ hx hby hml hrt hlk hZ hown hnm X0 e0 es0 => ?_)
  have N0 := Fr.nil n0
  rw [ef_RI_3 m a1 (Int32.ofNat (mm))]
  refine own_gk (XS.aloadN X0.here hx rfl (hb hby d12_0) rfl rfl) ?_
  obtain ⟨T162, X162, e162, st162⟩ := getF X0 hx hZ hown (host := "") (Or.inl (own_h hw 55 rfl)) Via.refl e0 F_value_a1 (g := (mkF m 1 #[rv a1, iv (Int32.ofNat (mm)), .unset] [(.ref a1)])) rfl rfl (hb hby d12_1)
  refine own_by st162 ?_
  obtain ⟨cl163, Ar163, qa163, Sa163, Na163, Ha163, Ga163⟩ := id V_va
  refine own_by (X162.arraylength hx (by rw [e162]; exact Ar163.1) (State.isArrayOf_alike hZ.alike Ar163.2.1) (g := (mkF m 4 #[rv a1, iv (Int32.ofNat (mm)), .unset] [(.ref va)])) rfl rfl (hb hby d12_4)) ?_
  rw [len_of Sa163 Na163]
  refine own_gk (XS.aloadN X162.here hx rfl (hb hby d12_5) rfl rfl) ?_
  obtain ⟨T164, X164, e164, st164⟩ := getF X162 hx hZ hown (host := "") (Or.inl (own_h hw 57 rfl)) Via.refl e162 F_coder_a1 (g := (mkF m 6 #[rv a1, iv (Int32.ofNat (mm)), .unset] [(.ref a1), (.int (Int32.ofNat (cc)))])) rfl rfl (hb hby d12_6)
  refine own_by st164 ?_
  show own_Fin _ _ _ _ (T164.setTop (mkF m 9 #[rv a1, iv (Int32.ofNat (mm)), .unset] [(.int (0 : Int32)), (.int (Int32.ofNat (cc)))]))
  refine own_gk (XS.ishr X164.here hx rfl (hb hby d12_9) rfl) ?_
  show own_Fin _ _ _ _ (T164.setTop (mkF m 10 #[rv a1, iv (Int32.ofNat (mm)), .unset] [(.int ((Int32.ofNat (cc)) >>> ((0 : Int32) &&& 31)))]))
  rw [show ((Int32.ofNat (cc)) >>> ((0 : Int32) &&& 31)) = Int32.ofNat (cc) from (own_shr0 (a := cc) (by omega))]
  refine own_gk (XS.istoreN X164.here hx rfl (hb hby d12_10) rfl rfl) ?_
  refine own_gk (XS.iloadN X164.here hx rfl (hb hby d12_11) rfl) ?_
  refine own_gk (XS.iloadN X164.here hx rfl (hb hby d12_12) rfl) ?_
  refine own_gk (XS.isub X164.here hx rfl (hb hby d12_13) rfl) ?_
  show own_Fin _ _ _ _ (T164.setTop (mkF m 14 #[rv a1, iv (Int32.ofNat (mm)), iv (Int32.ofNat (cc))] [(.int ((Int32.ofNat (mm)) - (Int32.ofNat (cc))))]))
  refine own_gk (XS.ifYes X164.here hx rfl (pc0 := 14) (pc' := 38) rfl (hb hby d12_14) rfl ((if0 _ _).trans (flt (show ¬ ((0 : Int32) < ((Int32.ofNat (mm)) - (Int32.ofNat (cc)))) from (own_subneg hg (by omega)))).2.2.2) (by decide) (by decide)) ?_
  obtain ⟨fs165, hr165, hrun165, hended165, hW165, hsame165⟩ := X164.leave (v := none) (fun _ => rfl)
  refine own_done (X164.returnOut hx hrt (hb hby d12_38) hr165) hrun165 hended165 ⟨_, _, rfl, ?_, ⟨_, rfl⟩, hW165, hsame165.mono (by decide) (by decide)⟩
  show QecN_0 Z a1 va kv cc cnt f mm h0 n0 _ T164.heap _
  rw [e164]
  exact ⟨rfl, N0, rfl⟩
def QecG_0 (Z : State) (a1 : Addr) (va : Addr) (kv : ClassId) (cc : Nat) (cnt : Nat) (f : Nat → Int32) (mm : Nat) (h0 : Heap) (n0 : Nat) (v : Option Value) (h : Heap) (L : List Loc) : Prop := ∃ (vb : Addr) (kb : ClassId), v = none ∧ Fr n0 L ∧ Keep h0 h [a1] ∧ n0 ≤ vb ∧ h0.size ≤ vb ∧ Exa Z h a1 "java/lang/StringBuilder" ∧ Fld Z h a1 "java/lang/AbstractStringBuilder" "value" "[B" (.ref vb) ∧ Fld Z h a1 "java/lang/AbstractStringBuilder" "count" "I" (.int (Int32.ofNat (cnt))) ∧ Fld Z h a1 "java/lang/AbstractStringBuilder" "coder" "B" (.int (0 : Int32)) ∧ Fld Z h a1 "java/lang/AbstractStringBuilder" "maybeLatin1" "Z" (.int (0 : Int32)) ∧ Arv Z h vb kb .byte (Int32.ofNat (max mm (2 * cc + 2))) (List.map Value.int (own_R (own_cpf (fun _ => (0 : Int32)) f 0 0 cc) (max mm (2 * cc + 2)))) (.int (0 : Int32))
theorem d12_17 : decode jdk_68_method_9_code 17 = .ok (.aload_n 0, 1) := by decide +kernel
theorem d12_18 : decode jdk_68_method_9_code 18 = .ok (.aload_n 0, 1) := by decide +kernel
theorem d12_19 : decode jdk_68_method_9_code 19 = .ok (.getfield 15, 3) := by decide +kernel
theorem d12_22 : decode jdk_68_method_9_code 22 = .ok (.aload_n 0, 1) := by decide +kernel
theorem d12_23 : decode jdk_68_method_9_code 23 = .ok (.iload_n 1, 1) := by decide +kernel
theorem d12_24 : decode jdk_68_method_9_code 24 = .ok (.invokevirtual 104, 3) := by decide +kernel
theorem d12_27 : decode jdk_68_method_9_code 27 = .ok (.aload_n 0, 1) := by decide +kernel
theorem d12_28 : decode jdk_68_method_9_code 28 = .ok (.getfield 22, 3) := by decide +kernel
theorem d12_31 : decode jdk_68_method_9_code 31 = .ok (.ishl, 1) := by decide +kernel
theorem d12_32 : decode jdk_68_method_9_code 32 = .ok (.invokestatic 108, 3) := by decide +kernel
theorem pd__28__5b_BI_29__5b_B : parseMethodDescriptor "([BI)[B" = some ⟨[(.array .byte), .int], some (.array .byte)⟩ := by decide +kernel
theorem d12_35 : decode jdk_68_method_9_code 35 = .ok (.putfield 15, 3) := by decide +kernel
set_option maxRecDepth 65536 in
set_option maxHeartbeats 40000000 in
theorem rmecG_0 (l : Launch) (Z : State) (a0 : Array Value) (hw : ∀ d ∈ tables_1, d.before a0 Z = true) (ws : List Jvm.Cond) (a1 : Addr) (va : Addr) (kv : ClassId) (cc : Nat) (cnt : Nat) (f : Nat → Int32) (mm : Nat) (h0 : Heap) (n0 : Nat) (Z0 : n0 ≤ h0.size) (E_a1 : Exa Z h0 a1 "java/lang/StringBuilder") (F_value_a1 : Fld Z h0 a1 "java/lang/AbstractStringBuilder" "value" "[B" (.ref va)) (F_count_a1 : Fld Z h0 a1 "java/lang/AbstractStringBuilder" "count" "I" (.int (Int32.ofNat (cnt)))) (F_coder_a1 : Fld Z h0 a1 "java/lang/AbstractStringBuilder" "coder" "B" (.int (0 : Int32))) (F_maybeLatin1_a1 : Fld Z h0 a1 "java/lang/AbstractStringBuilder" "maybeLatin1" "Z" (.int (0 : Int32))) (V_va : Arv Z h0 va kv .byte (Int32.ofNat (cc)) (List.map Value.int (own_R f cc)) (.int (0 : Int32))) (g_a1 : n0 ≤ a1) (g_va : n0 ≤ va) (hcc : 16 ≤ cc) (hc2 : cc ≤ 90) (hm2 : mm ≤ 90) (hg : cc < mm) (hmx : max mm (2 * cc + 2) ≤ 128) : own_Met l own_y12 jdk_68_method_9_code 3 none ws ⟨3, 1, 256, 55⟩ #[(.ref a1), (.int (Int32.ofNat (mm)))] Z h0 (QecG_0 Z a1 va kv cc cnt f mm h0 n0) := by
  refine own_met (plainFor_of_name pn_java_lang_AbstractStringBuilder) (fun p e s m below meth c s₁ hx hby hml hrt hlk hZ hown hnm X0 e0 es0 => ?_)
  have N0 := Fr.nil n0
  rw [ef_RI_3 m a1 (Int32.ofNat (mm))]
  have Kz := Keep.refl h0 [a1]
  refine own_gk (XS.aloadN X0.here hx rfl (hb hby d12_0) rfl rfl) ?_
  obtain ⟨T166, X166, e166, st166⟩ := getF X0 hx hZ hown (host := "") (Or.inl (own_h hw 55 rfl)) Via.refl e0 F_value_a1 (g := (mkF m 1 #[rv a1, iv (Int32.ofNat (mm)), .unset] [(.ref a1)])) rfl rfl (hb hby d12_1)
  refine own_by st166 ?_
  obtain ⟨cl167, Ar167, qa167, Sa167, Na167, Ha167, Ga167⟩ := id V_va
  refine own_by (X166.arraylength hx (by rw [e166]; exact Ar167.1) (State.isArrayOf_alike hZ.alike Ar167.2.1) (g := (mkF m 4 #[rv a1, iv (Int32.ofNat (mm)), .unset] [(.ref va)])) rfl rfl (hb hby d12_4)) ?_
  rw [len_of Sa167 Na167]
  refine own_gk (XS.aloadN X166.here hx rfl (hb hby d12_5) rfl rfl) ?_
  obtain ⟨T168, X168, e168, st168⟩ := getF X166 hx hZ hown (host := "") (Or.inl (own_h hw 57 rfl)) Via.refl e166 F_coder_a1 (g := (mkF m 6 #[rv a1, iv (Int32.ofNat (mm)), .unset] [(.ref a1), (.int (Int32.ofNat (cc)))])) rfl rfl (hb hby d12_6)
  refine own_by st168 ?_
  show own_Fin _ _ _ _ (T168.setTop (mkF m 9 #[rv a1, iv (Int32.ofNat (mm)), .unset] [(.int (0 : Int32)), (.int (Int32.ofNat (cc)))]))
  refine own_gk (XS.ishr X168.here hx rfl (hb hby d12_9) rfl) ?_
  show own_Fin _ _ _ _ (T168.setTop (mkF m 10 #[rv a1, iv (Int32.ofNat (mm)), .unset] [(.int ((Int32.ofNat (cc)) >>> ((0 : Int32) &&& 31)))]))
  rw [show ((Int32.ofNat (cc)) >>> ((0 : Int32) &&& 31)) = Int32.ofNat (cc) from (own_shr0 (a := cc) (by omega))]
  refine own_gk (XS.istoreN X168.here hx rfl (hb hby d12_10) rfl rfl) ?_
  refine own_gk (XS.iloadN X168.here hx rfl (hb hby d12_11) rfl) ?_
  refine own_gk (XS.iloadN X168.here hx rfl (hb hby d12_12) rfl) ?_
  refine own_gk (XS.isub X168.here hx rfl (hb hby d12_13) rfl) ?_
  show own_Fin _ _ _ _ (T168.setTop (mkF m 14 #[rv a1, iv (Int32.ofNat (mm)), iv (Int32.ofNat (cc))] [(.int ((Int32.ofNat (mm)) - (Int32.ofNat (cc))))]))
  rw [show ((Int32.ofNat (mm)) - (Int32.ofNat (cc))) = Int32.ofNat (mm - cc) from ((own_subN (a := mm) (b := cc) (by omega)).trans (congrArg Int32.ofNat (by omega)))]
  refine own_gk (XS.ifNo X168.here hx rfl (hb hby d12_14) rfl ((if0 _ _).trans (tlt (show (0 : Int32) < (Int32.ofNat (mm - cc)) from ((own_ltN (a := 0) (b := mm - cc) (by omega) (by omega)).mpr (by omega)))).2.2.2)) ?_
  refine own_gk (XS.aloadN X168.here hx rfl (hb hby d12_17) rfl rfl) ?_
  refine own_gk (XS.aloadN X168.here hx rfl (hb hby d12_18) rfl rfl) ?_
  obtain ⟨T169, X169, e169, st169⟩ := getF X168 hx hZ hown (host := "") (Or.inl (own_h hw 55 rfl)) Via.refl e168 F_value_a1 (g := (mkF m 19 #[rv a1, iv (Int32.ofNat (mm)), iv (Int32.ofNat (cc))] [(.ref a1), (.ref a1)])) rfl rfl (hb hby d12_19)
  refine own_by st169 ?_
  show own_Fin _ _ _ _ (T169.setTop (mkF m 22 #[rv a1, iv (Int32.ofNat (mm)), iv (Int32.ofNat (cc))] [(.ref va), (.ref a1)]))
  refine own_gk (XS.aloadN X169.here hx rfl (hb hby d12_22) rfl rfl) ?_
  refine own_gk (XS.iloadN X169.here hx rfl (hb hby d12_23) rfl) ?_
  obtain ⟨cq170, q170, q170'⟩ := E_a1.cell
  obtain ⟨_, _, ⟨T170, L170, k170, n170⟩, -, X170, ⟨Lc170, hQ170, l170, y170, z170⟩, st170⟩ := X169.privateBack hx (y := own_y35) hown (mvT hZ (own_h hw 178 rfl)) (mvT hZ (own_h hw 179 rfl)) (own_privSel (mvT hZ (own_h hw 179 rfl)) (mvT hZ (own_h hw 181 rfl)) (Cond.privateMethod_at (mvP hZ (own_h hw 180 rfl) (args := #[]))) (by decide)) (Cond.privateMethod_at (mvP hZ (own_h hw 180 rfl) (args := #[]))) (mvT hZ (own_h hw 182 rfl)) (by decide) (backOf (W := 2) (rmnc_0 l Z a0 hw [] a1 va kv cc cnt f mm h0 n0 Z0 E_a1 F_value_a1 F_count_a1 F_coder_a1 F_maybeLatin1_a1 V_va g_a1 g_va hcc hc2 hm2 hg) hZ (own_h hw 182 rfl) (own_h hw 51 rfl) (by decide) (by decide)) (g := (mkF m 24 #[rv a1, iv (Int32.ofNat (mm)), iv (Int32.ofNat (cc))] [(.int (Int32.ofNat (mm))), (.ref a1), (.ref va), (.ref a1)])) rfl (by rw [hml]; rfl) (Steps.refl _) (a := a1) (by rw [e169]; exact q170) q170' (argsL := [(.int (Int32.ofNat (mm)))]) (rest := [(.ref va), (.ref a1)]) (lenOf pd__28_I_29_I rfl) rfl (by show 2 * 0 + _ ≤ _; exact Nat.le_of_eq rfl) (hb hby d12_24) (fun _ hv => ⟨rfl, e169, (by decide : 0 + 0 ≤ _), (by decide : 0 + 0 ≤ _)⟩)
  dsimp only [Pt.U, Pt.locs, Pt.cells, Pt.slots] at X170 l170 y170 z170 st170 hQ170
  subst l170 y170 z170
  obtain ⟨rfl, Nq170, e170⟩ := hQ170
  refine own_go st170 ?_
  have N170 := Fr.app N0 Nq170
  refine own_gk (XS.aloadN X170.here hx rfl (hb hby d12_27) rfl rfl) ?_
  obtain ⟨T171, X171, e171, st171⟩ := getF X170 hx hZ hown (host := "") (Or.inl (own_h hw 57 rfl)) Via.refl e170 F_coder_a1 (g := (mkF m 28 #[rv a1, iv (Int32.ofNat (mm)), iv (Int32.ofNat (cc))] [(.ref a1), (.int (Int32.ofNat (max mm (2 * cc + 2)))), (.ref va), (.ref a1)])) rfl rfl (hb hby d12_28)
  refine own_by st171 ?_
  show own_Fin _ _ _ _ (T171.setTop (mkF m 31 #[rv a1, iv (Int32.ofNat (mm)), iv (Int32.ofNat (cc))] [(.int (0 : Int32)), (.int (Int32.ofNat (max mm (2 * cc + 2)))), (.ref va), (.ref a1)]))
  refine own_gk (XS.ishl X171.here hx rfl (hb hby d12_31) rfl) ?_
  show own_Fin _ _ _ _ (T171.setTop (mkF m 32 #[rv a1, iv (Int32.ofNat (mm)), iv (Int32.ofNat (cc))] [(.int ((Int32.ofNat (max mm (2 * cc + 2))) <<< ((0 : Int32) &&& 31))), (.ref va), (.ref a1)]))
  rw [show ((Int32.ofNat (max mm (2 * cc + 2))) <<< ((0 : Int32) &&& 31)) = Int32.ofNat (max mm (2 * cc + 2)) from (own_shl0 (a := max mm (2 * cc + 2)) (by omega))]
  obtain ⟨_, T172, Lc172, X172, hQ172, st172⟩ := own_callS X171 hx hZ hown (own_h hw 192 rfl) (own_h hw 193 rfl) (own_h hw 130 rfl) (own_h hw 194 rfl) (by decide) (rmcpo l Z a0 hw [] va kv cc f (max mm (2 * cc + 2)) h0 n0 Z0 V_va (by omega) (by omega)) (W := 1) (by decide) (by decide) (g := (mkF m 32 #[rv a1, iv (Int32.ofNat (mm)), iv (Int32.ofNat (cc))] [(.int (Int32.ofNat (max mm (2 * cc + 2)))), (.ref va), (.ref a1)])) rfl (by rw [hml]; rfl) (argsL := [(.ref va), (.int (Int32.ofNat (max mm (2 * cc + 2))))]) (rest := [(.ref a1)]) (lenOf pd__28__5b_BI_29__5b_B rfl) rfl (Nat.le_of_eq rfl) (hb hby d12_32) rfl e171 (by decide) (by decide)
  refine own_go st172 ?_
  obtain ⟨b_172, kb_172, rfl, Nq172, K172, g_b_172, sb_b_172, r172_0⟩ := hQ172
  have ne_a1_b_172 : a1 ≠ b_172 := Nat.ne_of_lt (Nat.lt_of_lt_of_le E_a1.lt sb_b_172)
  have ne_va_b_172 : va ≠ b_172 := Nat.ne_of_lt (Nat.lt_of_lt_of_le V_va.lt sb_b_172)
  have sz_b_172 : h0.size ≤ b_172 := Nat.le_trans Kz.1 sb_b_172
  have E_a1_172 := E_a1.keep K172
  have F_value_a1_172 := F_value_a1.keep K172 nin0
  have F_count_a1_172 := F_count_a1.keep K172 nin0
  have F_coder_a1_172 := F_coder_a1.keep K172 nin0
  have F_maybeLatin1_a1_172 := F_maybeLatin1_a1.keep K172 nin0
  have V_va_172 := V_va.keep K172 nin0
  have Z172 : n0 ≤ T172.heap.size := Nat.le_trans Z0 K172.1
  have Kt172 := Kz.trans K172 all0
  have N172 := Fr.app N170 Nq172
  obtain ⟨T173, h173, X173, e173, W173, st173⟩ := putF X172 hx hZ hown (host := "") (Or.inl (own_h hw 55 rfl)) Via.refl rfl F_value_a1_172 E_a1_172 (Or.inl (own_h hw 56 rfl)) (own_h hw 42 rfl) (ty := (.array .byte)) (by decide) rfl rfl (g := (mkF m 35 #[rv a1, iv (Int32.ofNat (mm)), iv (Int32.ofNat (cc))] [(.ref b_172), (.ref a1)])) rfl rfl (hb hby d12_35)
  refine own_by st173 ?_
  have F_value_a1_173 := F_value_a1_172.same W173
  have E_a1_173 := E_a1_172.wr W173
  have F_count_a1_173 := F_count_a1_172.other W173 (Or.inr (slot_ne (Or.inl (own_h hw 72 rfl)) (Or.inl (own_h hw 56 rfl)) (by decide) (t := .int) (t' := (.array .byte)) (by decide) (by decide)))
  have F_coder_a1_173 := F_coder_a1_172.other W173 (Or.inr (slot_ne (Or.inl (own_h hw 58 rfl)) (Or.inl (own_h hw 56 rfl)) (by decide) (t := .byte) (t' := (.array .byte)) (by decide) (by decide)))
  have F_maybeLatin1_a1_173 := F_maybeLatin1_a1_172.other W173 (Or.inr (slot_ne (Or.inl (own_h hw 262 rfl)) (Or.inl (own_h hw 56 rfl)) (by decide) (t := .boolean) (t' := (.array .byte)) (by decide) (by decide)))
  have V_va_173 := V_va_172.other W173 (Ne.symm (Exa.neArv E_a1_172 V_va_172 (own_h hw 42 rfl)))
  have r172_0_173 := r172_0.other W173 (Ne.symm ne_a1_b_172)
  have N173 := Fr.snoc X173 N172 g_a1
  have Z173 : n0 ≤ h173.size := Nat.le_trans Z172 (Keep.of_wr W173).1
  have K173 := Kt172.wr W173 (Or.inl (List.mem_of_getElem? (i := 0) rfl))
  obtain ⟨fs174, hr174, hrun174, hended174, hW174, hsame174⟩ := X173.leave (v := none) (fun _ => rfl)
  refine own_done (X173.returnOut hx hrt (hb hby d12_38) hr174) hrun174 hended174 ⟨_, _, rfl, ?_, ⟨_, rfl⟩, hW174, hsame174.mono (by decide) (by decide)⟩
  show QecG_0 Z a1 va kv cc cnt f mm h0 n0 _ T173.heap _
  rw [e173]
  exact ⟨b_172, kb_172, rfl, N173, K173, g_b_172, sz_b_172, E_a1_173, F_value_a1_173, F_count_a1_173, F_coder_a1_173, F_maybeLatin1_a1_173, r172_0_173⟩
def Qnc_1 (Z : State) (a1 : Addr) (va : Addr) (kv : ClassId) (cc : Nat) (cnt : Nat) (f : Nat → Int32) (mm : Nat) (h0 : Heap) (n0 : Nat) (v : Option Value) (h : Heap) (L : List Loc) : Prop := v = some (.int (Int32.ofNat (max mm (2 * cc + 2)))) ∧ Fr n0 L ∧ h = h0
set_option maxRecDepth 65536 in
set_option maxHeartbeats 40000000 in
theorem rmnc_1 (l : Launch) (Z : State) (a0 : Array Value) (hw : ∀ d ∈ tables_1, d.before a0 Z = true) (ws : List Jvm.Cond) (a1 : Addr) (va : Addr) (kv : ClassId) (cc : Nat) (cnt : Nat) (f : Nat → Int32) (mm : Nat) (h0 : Heap) (n0 : Nat) (Z0 : n0 ≤ h0.size) (E_a1 : Exa Z h0 a1 "java/lang/StringBuilder") (F_value_a1 : Fld Z h0 a1 "java/lang/AbstractStringBuilder" "value" "[B" (.ref va)) (F_count_a1 : Fld Z h0 a1 "java/lang/AbstractStringBuilder" "count" "I" (.int (Int32.ofNat (cnt)))) (F_coder_a1 : Fld Z h0 a1 "java/lang/AbstractStringBuilder" "coder" "B" (.int (1 : Int32))) (F_maybeLatin1_a1 : Fld Z h0 a1 "java/lang/AbstractStringBuilder" "maybeLatin1" "Z" (.int (0 : Int32))) (V_va : Arv Z h0 va kv .byte (Int32.ofNat (2 * cc)) (List.map Value.int (own_R f (2 * cc))) (.int (0 : Int32))) (g_a1 : n0 ≤ a1) (g_va : n0 ≤ va) (hcc : 16 ≤ cc) (hc2 : cc ≤ 90) (hm2 : mm ≤ 90) (hg : cc < mm) : own_Met l own_y35 jdk_68_method_10_code 6 (some .int) ws ⟨2, 0, 0, 29⟩ #[(.ref a1), (.int (Int32.ofNat (mm)))] Z h0 (Qnc_1 Z a1 va kv cc cnt f mm h0 n0) := by
  refine own_met (plainFor_of_name pn_java_lang_AbstractStringBuilder) (fun p e s m below meth c s₁ hx hby hml hrt hlk hZ hown hnm X0 e0 es0 => ?_)
  have N0 := Fr.nil n0
  rw [ef_RI_6 m a1 (Int32.ofNat (mm))]
  refine own_gk (XS.aloadN X0.here hx rfl (hb hby d35_0) rfl rfl) ?_
  obtain ⟨T175, X175, e175, st175⟩ := getF X0 hx hZ hown (host := "") (Or.inl (own_h hw 55 rfl)) Via.refl e0 F_value_a1 (g := (mkF m 1 #[rv a1, iv (Int32.ofNat (mm)), .unset, .unset, .unset, .unset] [(.ref a1)])) rfl rfl (hb hby d35_1)
  refine own_by st175 ?_
  obtain ⟨cl176, Ar176, qa176, Sa176, Na176, Ha176, Ga176⟩ := id V_va
  refine own_by (X175.arraylength hx (by rw [e175]; exact Ar176.1) (State.isArrayOf_alike hZ.alike Ar176.2.1) (g := (mkF m 4 #[rv a1, iv (Int32.ofNat (mm)), .unset, .unset, .unset, .unset] [(.ref va)])) rfl rfl (hb hby d35_4)) ?_
  rw [len_of Sa176 Na176]
  refine own_gk (XS.istoreN X175.here hx rfl (hb hby d35_5) rfl rfl) ?_
  refine own_gk (XS.iloadN X175.here hx rfl (hb hby d35_6) rfl) ?_
  show own_Fin _ _ _ _ (T175.setTop (mkF m 7 #[rv a1, iv (Int32.ofNat (mm)), iv (Int32.ofNat (2 * cc)), .unset, .unset, .unset] [(.int (Int32.ofNat (mm)))]))
  refine own_gk (XS.aloadN X175.here hx rfl (hb hby d35_7) rfl rfl) ?_
  obtain ⟨T177, X177, e177, st177⟩ := getF X175 hx hZ hown (host := "") (Or.inl (own_h hw 57 rfl)) Via.refl e175 F_coder_a1 (g := (mkF m 8 #[rv a1, iv (Int32.ofNat (mm)), iv (Int32.ofNat (2 * cc)), .unset, .unset, .unset] [(.ref a1), (.int (Int32.ofNat (mm)))])) rfl rfl (hb hby d35_8)
  refine own_by st177 ?_
  refine own_gk (XS.ishl X177.here hx rfl (hb hby d35_11) rfl) ?_
  show own_Fin _ _ _ _ (T177.setTop (mkF m 12 #[rv a1, iv (Int32.ofNat (mm)), iv (Int32.ofNat (2 * cc)), .unset, .unset, .unset] [(.int ((Int32.ofNat (mm)) <<< ((1 : Int32) &&& 31)))]))
  rw [show ((Int32.ofNat (mm)) <<< ((1 : Int32) &&& 31)) = Int32.ofNat (2 * mm) from (own_shl1 (a := mm) (by omega))]
  refine own_gk (XS.istoreN X177.here hx rfl (hb hby d35_12) rfl rfl) ?_
  refine own_gk (XS.iloadN X177.here hx rfl (hb hby d35_13) rfl) ?_
  refine own_gk (XS.iloadN X177.here hx rfl (hb hby d35_14) rfl) ?_
  refine own_gk (XS.isub X177.here hx rfl (hb hby d35_15) rfl) ?_
  show own_Fin _ _ _ _ (T177.setTop (mkF m 16 #[rv a1, iv (Int32.ofNat (mm)), iv (Int32.ofNat (2 * cc)), iv (Int32.ofNat (2 * mm)), .unset, .unset] [(.int ((Int32.ofNat (2 * mm)) - (Int32.ofNat (2 * cc))))]))
  rw [show ((Int32.ofNat (2 * mm)) - (Int32.ofNat (2 * cc))) = Int32.ofNat (2 * mm - (2 * cc)) from ((own_subN (a := 2 * mm) (b := 2 * cc) (by omega)).trans (congrArg Int32.ofNat (by omega)))]
  refine own_gk (XS.istore X177.here hx rfl (hb hby d35_16) rfl rfl) ?_
  refine own_gk (XS.iloadN X177.here hx rfl (hb hby d35_18) rfl) ?_
  refine own_gk (XS.iload X177.here hx rfl (hb hby d35_19) rfl) ?_
  refine own_gk (XS.iloadN X177.here hx rfl (hb hby d35_21) rfl) ?_
  show own_Fin _ _ _ _ (T177.setTop (mkF m 22 #[rv a1, iv (Int32.ofNat (mm)), iv (Int32.ofNat (2 * cc)), iv (Int32.ofNat (2 * mm)), iv (Int32.ofNat (2 * mm - (2 * cc))), .unset] [(.int (Int32.ofNat (2 * cc))), (.int (Int32.ofNat (2 * mm - (2 * cc)))), (.int (Int32.ofNat (2 * cc)))]))
  refine own_gk (XS.iconst X177.here hx rfl (hb hby d35_22)) ?_
  refine own_gk (XS.aloadN X177.here hx rfl (hb hby d35_23) rfl rfl) ?_
  obtain ⟨T178, X178, e178, st178⟩ := getF X177 hx hZ hown (host := "") (Or.inl (own_h hw 57 rfl)) Via.refl e177 F_coder_a1 (g := (mkF m 24 #[rv a1, iv (Int32.ofNat (mm)), iv (Int32.ofNat (2 * cc)), iv (Int32.ofNat (2 * mm)), iv (Int32.ofNat (2 * mm - (2 * cc))), .unset] [(.ref a1), (.int (2 : Int32)), (.int (Int32.ofNat (2 * cc))), (.int (Int32.ofNat (2 * mm - (2 * cc)))), (.int (Int32.ofNat (2 * cc)))])) rfl rfl (hb hby d35_24)
  refine own_by st178 ?_
  refine own_gk (XS.ishl X178.here hx rfl (hb hby d35_27) rfl) ?_
  refine own_gk (XS.iadd X178.here hx rfl (hb hby d35_28) rfl) ?_
  show own_Fin _ _ _ _ (T178.setTop (mkF m 29 #[rv a1, iv (Int32.ofNat (mm)), iv (Int32.ofNat (2 * cc)), iv (Int32.ofNat (2 * mm)), iv (Int32.ofNat (2 * mm - (2 * cc))), .unset] [(.int ((Int32.ofNat (2 * cc)) + (4 : Int32))), (.int (Int32.ofNat (2 * mm - (2 * cc)))), (.int (Int32.ofNat (2 * cc)))]))
  rw [show ((Int32.ofNat (2 * cc)) + (4 : Int32)) = Int32.ofNat (2 * cc + 4) from (own_addN (2 * cc) 4)]
  obtain ⟨_, T179, Lc179, X179, hQ179, st179⟩ := own_callS X178 hx hZ hown (own_h hw 183 rfl) (own_h hw 184 rfl) (own_h hw 185 rfl) (own_h hw 186 rfl) (by decide) (rmnle l Z a0 hw [] (2 * cc) (2 * mm - (2 * cc)) (2 * cc + 4) h0 n0 Z0 (by omega) (by omega) (by omega) (by omega)) (W := 0) (by decide) (by decide) (g := (mkF m 29 #[rv a1, iv (Int32.ofNat (mm)), iv (Int32.ofNat (2 * cc)), iv (Int32.ofNat (2 * mm)), iv (Int32.ofNat (2 * mm - (2 * cc))), .unset] [(.int (Int32.ofNat (2 * cc + 4))), (.int (Int32.ofNat (2 * mm - (2 * cc)))), (.int (Int32.ofNat (2 * cc)))])) rfl (by rw [hml]; rfl) (argsL := [(.int (Int32.ofNat (2 * cc))), (.int (Int32.ofNat (2 * mm - (2 * cc)))), (.int (Int32.ofNat (2 * cc + 4)))]) (rest := []) (lenOf pd__28_III_29_I rfl) rfl (Nat.le_of_eq rfl) (hb hby d35_29) rfl e178 (by decide) (by decide)
  obtain ⟨rfl, Nq179, e179⟩ := hQ179
  refine own_go st179 ?_
  have N179 := Fr.app N0 Nq179
  refine own_gk (XS.istore X179.here hx rfl (hb hby d35_32) rfl rfl) ?_
  refine own_gk (XS.iload X179.here hx rfl (hb hby d35_34) rfl) ?_
  refine own_by (X179.ldcInt hx hown (mvT hZ (own_h hw 191 rfl)) (g := (mkF m 36 #[rv a1, iv (Int32.ofNat (mm)), iv (Int32.ofNat (2 * cc)), iv (Int32.ofNat (2 * mm)), iv (Int32.ofNat (2 * mm - (2 * cc))), iv (Int32.ofNat ((2 * cc) + max (2 * mm - (2 * cc)) (2 * cc + 4)))] [(.int (Int32.ofNat ((2 * cc) + max (2 * mm - (2 * cc)) (2 * cc + 4))))])) rfl (hb hby d35_36)) ?_
  show own_Fin _ _ _ _ (T179.setTop (mkF m 38 #[rv a1, iv (Int32.ofNat (mm)), iv (Int32.ofNat (2 * cc)), iv (Int32.ofNat (2 * mm)), iv (Int32.ofNat (2 * mm - (2 * cc))), iv (Int32.ofNat ((2 * cc) + max (2 * mm - (2 * cc)) (2 * cc + 4)))] [(.int (2147483647 : Int32)), (.int (Int32.ofNat ((2 * cc) + max (2 * mm - (2 * cc)) (2 * cc + 4))))]))
  refine own_gk (XS.icmpYes X179.here hx rfl (pc0 := 38) (pc' := 51) rfl (hb hby d35_38) rfl (feq (show ¬ ((Int32.ofNat ((2 * cc) + max (2 * mm - (2 * cc)) (2 * cc + 4))) = (2147483647 : Int32)) from (fun q => absurd ((own_eqN (a := (2 * cc) + max (2 * mm - (2 * cc)) (2 * cc + 4)) (b := 2147483647) (by omega) (by omega)).mp q) (by omega)))).2 (by decide) (by decide)) ?_
  refine own_gk (XS.iload X179.here hx rfl (hb hby d35_51) rfl) ?_
  refine own_gk (XS.aloadN X179.here hx rfl (hb hby d35_53) rfl rfl) ?_
  obtain ⟨T180, X180, e180, st180⟩ := getF X179 hx hZ hown (host := "") (Or.inl (own_h hw 57 rfl)) Via.refl e179 F_coder_a1 (g := (mkF m 54 #[rv a1, iv (Int32.ofNat (mm)), iv (Int32.ofNat (2 * cc)), iv (Int32.ofNat (2 * mm)), iv (Int32.ofNat (2 * mm - (2 * cc))), iv (Int32.ofNat ((2 * cc) + max (2 * mm - (2 * cc)) (2 * cc + 4)))] [(.ref a1), (.int (Int32.ofNat ((2 * cc) + max (2 * mm - (2 * cc)) (2 * cc + 4))))])) rfl rfl (hb hby d35_54)
  refine own_by st180 ?_
  refine own_gk (XS.ishr X180.here hx rfl (hb hby d35_57) rfl) ?_
  show own_Fin _ _ _ _ (T180.setTop (mkF m 58 #[rv a1, iv (Int32.ofNat (mm)), iv (Int32.ofNat (2 * cc)), iv (Int32.ofNat (2 * mm)), iv (Int32.ofNat (2 * mm - (2 * cc))), iv (Int32.ofNat ((2 * cc) + max (2 * mm - (2 * cc)) (2 * cc + 4)))] [(.int ((Int32.ofNat ((2 * cc) + max (2 * mm - (2 * cc)) (2 * cc + 4))) >>> ((1 : Int32) &&& 31)))]))
  rw [show ((Int32.ofNat ((2 * cc) + max (2 * mm - (2 * cc)) (2 * cc + 4))) >>> ((1 : Int32) &&& 31)) = Int32.ofNat (((2 * cc) + max (2 * mm - (2 * cc)) (2 * cc + 4)) / 2) from (own_shr1 (a := (2 * cc) + max (2 * mm - (2 * cc)) (2 * cc + 4)) (by omega))]
  obtain ⟨fs181, hr181, hrun181, hended181, hW181, hsame181⟩ := X180.leave (v := some (.int (Int32.ofNat (((2 * cc) + max (2 * mm - (2 * cc)) (2 * cc + 4)) / 2)))) (fun h => by rw [hrt] at h; cases h)
  refine own_done (own_retI X180 hx hrt (hb hby d35_58) hr181) hrun181 hended181 ⟨_, _, rfl, ?_, ⟨_, rfl⟩, hW181, hsame181.mono (by decide) (by decide)⟩
  show Qnc_1 Z a1 va kv cc cnt f mm h0 n0 _ T180.heap _
  rw [e180]
  exact ⟨(congrArg (fun z => some (Value.int (Int32.ofNat z))) (show ((2 * cc) + max (2 * mm - (2 * cc)) (2 * cc + 4)) / 2 = max mm (2 * cc + 2) by omega)), N179, rfl⟩
def QecN_1 (Z : State) (a1 : Addr) (va : Addr) (kv : ClassId) (cc : Nat) (cnt : Nat) (f : Nat → Int32) (mm : Nat) (h0 : Heap) (n0 : Nat) (v : Option Value) (h : Heap) (L : List Loc) : Prop := v = none ∧ Fr n0 L ∧ h = h0
set_option maxRecDepth 65536 in
set_option maxHeartbeats 40000000 in
theorem rmecN_1 (l : Launch) (Z : State) (a0 : Array Value) (hw : ∀ d ∈ tables_1, d.before a0 Z = true) (ws : List Jvm.Cond) (a1 : Addr) (va : Addr) (kv : ClassId) (cc : Nat) (cnt : Nat) (f : Nat → Int32) (mm : Nat) (h0 : Heap) (n0 : Nat) (Z0 : n0 ≤ h0.size) (E_a1 : Exa Z h0 a1 "java/lang/StringBuilder") (F_value_a1 : Fld Z h0 a1 "java/lang/AbstractStringBuilder" "value" "[B" (.ref va)) (F_count_a1 : Fld Z h0 a1 "java/lang/AbstractStringBuilder" "count" "I" (.int (Int32.ofNat (cnt)))) (F_coder_a1 : Fld Z h0 a1 "java/lang/AbstractStringBuilder" "coder" "B" (.int (1 : Int32))) (F_maybeLatin1_a1 : Fld Z h0 a1 "java/lang/AbstractStringBuilder" "maybeLatin1" "Z" (.int (0 : Int32))) (V_va : Arv Z h0 va kv .byte (Int32.ofNat (2 * cc)) (List.map Value.int (own_R f (2 * cc))) (.int (0 : Int32))) (g_a1 : n0 ≤ a1) (g_va : n0 ≤ va) (hcc : 16 ≤ cc) (hc2 : cc ≤ 90) (hm2 : mm ≤ 90) (hg : mm ≤ cc) : own_Met l own_y12 jdk_68_method_9_code 3 none ws ⟨0, 0, 0, 0⟩ #[(.ref a1), (.int (Int32.ofNat (mm)))] Z h0 (QecN_1 Z a1 va kv cc cnt f mm h0 n0) := by
  refine own_met (plainFor_of_name pn_java_lang_AbstractStringBuilder) (fun p e s m below meth c s₁ hx hby hml hrt hlk hZ hown hnm X0 e0 es0 => ?_)
  have N0 := Fr.nil n0
  rw [ef_RI_3 m a1 (Int32.ofNat (mm))]
  refine own_gk (XS.aloadN X0.here hx rfl (hb hby d12_0) rfl rfl) ?_
  obtain ⟨T182, X182, e182, st182⟩ := getF X0 hx hZ hown (host := "") (Or.inl (own_h hw 55 rfl)) Via.refl e0 F_value_a1 (g := (mkF m 1 #[rv a1, iv (Int32.ofNat (mm)), .unset] [(.ref a1)])) rfl rfl (hb hby d12_1)
  refine own_by st182 ?_
  obtain ⟨cl183, Ar183, qa183, Sa183, Na183, Ha183, Ga183⟩ := id V_va
  refine own_by (X182.arraylength hx (by rw [e182]; exact Ar183.1) (State.isArrayOf_alike hZ.alike Ar183.2.1) (g := (mkF m 4 #[rv a1, iv (Int32.ofNat (mm)), .unset] [(.ref va)])) rfl rfl (hb hby d12_4)) ?_
  rw [len_of Sa183 Na183]
  refine own_gk (XS.aloadN X182.here hx rfl (hb hby d12_5) rfl rfl) ?_
  obtain ⟨T184, X184, e184, st184⟩ := getF X182 hx hZ hown (host := "") (Or.inl (own_h hw 57 rfl)) Via.refl e182 F_coder_a1 (g := (mkF m 6 #[rv a1, iv (Int32.ofNat (mm)), .unset] [(.ref a1), (.int (Int32.ofNat (2 * cc)))])) rfl rfl (hb hby d12_6)
  refine own_by st184 ?_
  show own_Fin _ _ _ _ (T184.setTop (mkF m 9 #[rv a1, iv (Int32.ofNat (mm)), .unset] [(.int (1 : Int32)), (.int (Int32.ofNat (2 * cc)))]))
  refine own_gk (XS.ishr X184.here hx rfl (hb hby d12_9) rfl) ?_
  show own_Fin _ _ _ _ (T184.setTop (mkF m 10 #[rv a1, iv (Int32.ofNat (mm)), .unset] [(.int ((Int32.ofNat (2 * cc)) >>> ((1 : Int32) &&& 31)))]))
  rw [show ((Int32.ofNat (2 * cc)) >>> ((1 : Int32) &&& 31)) = Int32.ofNat (cc) from (own_shrd (a := cc) (by omega))]
  refine own_gk (XS.istoreN X184.here hx rfl (hb hby d12_10) rfl rfl) ?_
  refine own_gk (XS.iloadN X184.here hx rfl (hb hby d12_11) rfl) ?_
  refine own_gk (XS.iloadN X184.here hx rfl (hb hby d12_12) rfl) ?_
  refine own_gk (XS.isub X184.here hx rfl (hb hby d12_13) rfl) ?_
  show own_Fin _ _ _ _ (T184.setTop (mkF m 14 #[rv a1, iv (Int32.ofNat (mm)), iv (Int32.ofNat (cc))] [(.int ((Int32.ofNat (mm)) - (Int32.ofNat (cc))))]))
  refine own_gk (XS.ifYes X184.here hx rfl (pc0 := 14) (pc' := 38) rfl (hb hby d12_14) rfl ((if0 _ _).trans (flt (show ¬ ((0 : Int32) < ((Int32.ofNat (mm)) - (Int32.ofNat (cc)))) from (own_subneg hg (by omega)))).2.2.2) (by decide) (by decide)) ?_
  obtain ⟨fs185, hr185, hrun185, hended185, hW185, hsame185⟩ := X184.leave (v := none) (fun _ => rfl)
  refine own_done (X184.returnOut hx hrt (hb hby d12_38) hr185) hrun185 hended185 ⟨_, _, rfl, ?_, ⟨_, rfl⟩, hW185, hsame185.mono (by decide) (by decide)⟩
  show QecN_1 Z a1 va kv cc cnt f mm h0 n0 _ T184.heap _
  rw [e184]
  exact ⟨rfl, N0, rfl⟩
def QecG_1 (Z : State) (a1 : Addr) (va : Addr) (kv : ClassId) (cc : Nat) (cnt : Nat) (f : Nat → Int32) (mm : Nat) (h0 : Heap) (n0 : Nat) (v : Option Value) (h : Heap) (L : List Loc) : Prop := ∃ (vb : Addr) (kb : ClassId), v = none ∧ Fr n0 L ∧ Keep h0 h [a1] ∧ n0 ≤ vb ∧ h0.size ≤ vb ∧ Exa Z h a1 "java/lang/StringBuilder" ∧ Fld Z h a1 "java/lang/AbstractStringBuilder" "value" "[B" (.ref vb) ∧ Fld Z h a1 "java/lang/AbstractStringBuilder" "count" "I" (.int (Int32.ofNat (cnt))) ∧ Fld Z h a1 "java/lang/AbstractStringBuilder" "coder" "B" (.int (1 : Int32)) ∧ Fld Z h a1 "java/lang/AbstractStringBuilder" "maybeLatin1" "Z" (.int (0 : Int32)) ∧ Arv Z h vb kb .byte (Int32.ofNat (2 * (max mm (2 * cc + 2)))) (List.map Value.int (own_R (own_cpf (fun _ => (0 : Int32)) f 0 0 (2 * cc)) (2 * (max mm (2 * cc + 2))))) (.int (0 : Int32))
set_option maxRecDepth 65536 in
set_option maxHeartbeats 40000000 in
theorem rmecG_1 (l : Launch) (Z : State) (a0 : Array Value) (hw : ∀ d ∈ tables_1, d.before a0 Z = true) (ws : List Jvm.Cond) (a1 : Addr) (va : Addr) (kv : ClassId) (cc : Nat) (cnt : Nat) (f : Nat → Int32) (mm : Nat) (h0 : Heap) (n0 : Nat) (Z0 : n0 ≤ h0.size) (E_a1 : Exa Z h0 a1 "java/lang/StringBuilder") (F_value_a1 : Fld Z h0 a1 "java/lang/AbstractStringBuilder" "value" "[B" (.ref va)) (F_count_a1 : Fld Z h0 a1 "java/lang/AbstractStringBuilder" "count" "I" (.int (Int32.ofNat (cnt)))) (F_coder_a1 : Fld Z h0 a1 "java/lang/AbstractStringBuilder" "coder" "B" (.int (1 : Int32))) (F_maybeLatin1_a1 : Fld Z h0 a1 "java/lang/AbstractStringBuilder" "maybeLatin1" "Z" (.int (0 : Int32))) (V_va : Arv Z h0 va kv .byte (Int32.ofNat (2 * cc)) (List.map Value.int (own_R f (2 * cc))) (.int (0 : Int32))) (g_a1 : n0 ≤ a1) (g_va : n0 ≤ va) (hcc : 16 ≤ cc) (hc2 : cc ≤ 90) (hm2 : mm ≤ 90) (hg : cc < mm) (hmx : max mm (2 * cc + 2) ≤ 128) : own_Met l own_y12 jdk_68_method_9_code 3 none ws ⟨3, 1, 256, 55⟩ #[(.ref a1), (.int (Int32.ofNat (mm)))] Z h0 (QecG_1 Z a1 va kv cc cnt f mm h0 n0) := by
  refine own_met (plainFor_of_name pn_java_lang_AbstractStringBuilder) (fun p e s m below meth c s₁ hx hby hml hrt hlk hZ hown hnm X0 e0 es0 => ?_)
  have N0 := Fr.nil n0
  rw [ef_RI_3 m a1 (Int32.ofNat (mm))]
  have Kz := Keep.refl h0 [a1]
  refine own_gk (XS.aloadN X0.here hx rfl (hb hby d12_0) rfl rfl) ?_
  obtain ⟨T186, X186, e186, st186⟩ := getF X0 hx hZ hown (host := "") (Or.inl (own_h hw 55 rfl)) Via.refl e0 F_value_a1 (g := (mkF m 1 #[rv a1, iv (Int32.ofNat (mm)), .unset] [(.ref a1)])) rfl rfl (hb hby d12_1)
  refine own_by st186 ?_
  obtain ⟨cl187, Ar187, qa187, Sa187, Na187, Ha187, Ga187⟩ := id V_va
  refine own_by (X186.arraylength hx (by rw [e186]; exact Ar187.1) (State.isArrayOf_alike hZ.alike Ar187.2.1) (g := (mkF m 4 #[rv a1, iv (Int32.ofNat (mm)), .unset] [(.ref va)])) rfl rfl (hb hby d12_4)) ?_
  rw [len_of Sa187 Na187]
  refine own_gk (XS.aloadN X186.here hx rfl (hb hby d12_5) rfl rfl) ?_
  obtain ⟨T188, X188, e188, st188⟩ := getF X186 hx hZ hown (host := "") (Or.inl (own_h hw 57 rfl)) Via.refl e186 F_coder_a1 (g := (mkF m 6 #[rv a1, iv (Int32.ofNat (mm)), .unset] [(.ref a1), (.int (Int32.ofNat (2 * cc)))])) rfl rfl (hb hby d12_6)
  refine own_by st188 ?_
  show own_Fin _ _ _ _ (T188.setTop (mkF m 9 #[rv a1, iv (Int32.ofNat (mm)), .unset] [(.int (1 : Int32)), (.int (Int32.ofNat (2 * cc)))]))
  refine own_gk (XS.ishr X188.here hx rfl (hb hby d12_9) rfl) ?_
  show own_Fin _ _ _ _ (T188.setTop (mkF m 10 #[rv a1, iv (Int32.ofNat (mm)), .unset] [(.int ((Int32.ofNat (2 * cc)) >>> ((1 : Int32) &&& 31)))]))
  rw [show ((Int32.ofNat (2 * cc)) >>> ((1 : Int32) &&& 31)) = Int32.ofNat (cc) from (own_shrd (a := cc) (by omega))]
  refine own_gk (XS.istoreN X188.here hx rfl (hb hby d12_10) rfl rfl) ?_
  refine own_gk (XS.iloadN X188.here hx rfl (hb hby d12_11) rfl) ?_
  refine own_gk (XS.iloadN X188.here hx rfl (hb hby d12_12) rfl) ?_
  refine own_gk (XS.isub X188.here hx rfl (hb hby d12_13) rfl) ?_
  show own_Fin _ _ _ _ (T188.setTop (mkF m 14 #[rv a1, iv (Int32.ofNat (mm)), iv (Int32.ofNat (cc))] [(.int ((Int32.ofNat (mm)) - (Int32.ofNat (cc))))]))
  rw [show ((Int32.ofNat (mm)) - (Int32.ofNat (cc))) = Int32.ofNat (mm - cc) from ((own_subN (a := mm) (b := cc) (by omega)).trans (congrArg Int32.ofNat (by omega)))]
  refine own_gk (XS.ifNo X188.here hx rfl (hb hby d12_14) rfl ((if0 _ _).trans (tlt (show (0 : Int32) < (Int32.ofNat (mm - cc)) from ((own_ltN (a := 0) (b := mm - cc) (by omega) (by omega)).mpr (by omega)))).2.2.2)) ?_
  refine own_gk (XS.aloadN X188.here hx rfl (hb hby d12_17) rfl rfl) ?_
  refine own_gk (XS.aloadN X188.here hx rfl (hb hby d12_18) rfl rfl) ?_
  obtain ⟨T189, X189, e189, st189⟩ := getF X188 hx hZ hown (host := "") (Or.inl (own_h hw 55 rfl)) Via.refl e188 F_value_a1 (g := (mkF m 19 #[rv a1, iv (Int32.ofNat (mm)), iv (Int32.ofNat (cc))] [(.ref a1), (.ref a1)])) rfl rfl (hb hby d12_19)
  refine own_by st189 ?_
  show own_Fin _ _ _ _ (T189.setTop (mkF m 22 #[rv a1, iv (Int32.ofNat (mm)), iv (Int32.ofNat (cc))] [(.ref va), (.ref a1)]))
  refine own_gk (XS.aloadN X189.here hx rfl (hb hby d12_22) rfl rfl) ?_
  refine own_gk (XS.iloadN X189.here hx rfl (hb hby d12_23) rfl) ?_
  obtain ⟨cq190, q190, q190'⟩ := E_a1.cell
  obtain ⟨_, _, ⟨T190, L190, k190, n190⟩, -, X190, ⟨Lc190, hQ190, l190, y190, z190⟩, st190⟩ := X189.privateBack hx (y := own_y35) hown (mvT hZ (own_h hw 178 rfl)) (mvT hZ (own_h hw 179 rfl)) (own_privSel (mvT hZ (own_h hw 179 rfl)) (mvT hZ (own_h hw 181 rfl)) (Cond.privateMethod_at (mvP hZ (own_h hw 180 rfl) (args := #[]))) (by decide)) (Cond.privateMethod_at (mvP hZ (own_h hw 180 rfl) (args := #[]))) (mvT hZ (own_h hw 182 rfl)) (by decide) (backOf (W := 2) (rmnc_1 l Z a0 hw [] a1 va kv cc cnt f mm h0 n0 Z0 E_a1 F_value_a1 F_count_a1 F_coder_a1 F_maybeLatin1_a1 V_va g_a1 g_va hcc hc2 hm2 hg) hZ (own_h hw 182 rfl) (own_h hw 51 rfl) (by decide) (by decide)) (g := (mkF m 24 #[rv a1, iv (Int32.ofNat (mm)), iv (Int32.ofNat (cc))] [(.int (Int32.ofNat (mm))), (.ref a1), (.ref va), (.ref a1)])) rfl (by rw [hml]; rfl) (Steps.refl _) (a := a1) (by rw [e189]; exact q190) q190' (argsL := [(.int (Int32.ofNat (mm)))]) (rest := [(.ref va), (.ref a1)]) (lenOf pd__28_I_29_I rfl) rfl (by show 2 * 0 + _ ≤ _; exact Nat.le_of_eq rfl) (hb hby d12_24) (fun _ hv => ⟨rfl, e189, (by decide : 0 + 0 ≤ _), (by decide : 0 + 0 ≤ _)⟩)
  dsimp only [Pt.U, Pt.locs, Pt.cells, Pt.slots] at X190 l190 y190 z190 st190 hQ190
  subst l190 y190 z190
  obtain ⟨rfl, Nq190, e190⟩ := hQ190
  refine own_go st190 ?_
  have N190 := Fr.app N0 Nq190
  refine own_gk (XS.aloadN X190.here hx rfl (hb hby d12_27) rfl rfl) ?_
  obtain ⟨T191, X191, e191, st191⟩ := getF X190 hx hZ hown (host := "") (Or.inl (own_h hw 57 rfl)) Via.refl e190 F_coder_a1 (g := (mkF m 28 #[rv a1, iv (Int32.ofNat (mm)), iv (Int32.ofNat (cc))] [(.ref a1), (.int (Int32.ofNat (max mm (2 * cc + 2)))), (.ref va), (.ref a1)])) rfl rfl (hb hby d12_28)
  refine own_by st191 ?_
  show own_Fin _ _ _ _ (T191.setTop (mkF m 31 #[rv a1, iv (Int32.ofNat (mm)), iv (Int32.ofNat (cc))] [(.int (1 : Int32)), (.int (Int32.ofNat (max mm (2 * cc + 2)))), (.ref va), (.ref a1)]))
  refine own_gk (XS.ishl X191.here hx rfl (hb hby d12_31) rfl) ?_
  show own_Fin _ _ _ _ (T191.setTop (mkF m 32 #[rv a1, iv (Int32.ofNat (mm)), iv (Int32.ofNat (cc))] [(.int ((Int32.ofNat (max mm (2 * cc + 2))) <<< ((1 : Int32) &&& 31))), (.ref va), (.ref a1)]))
  rw [show ((Int32.ofNat (max mm (2 * cc + 2))) <<< ((1 : Int32) &&& 31)) = Int32.ofNat (2 * (max mm (2 * cc + 2))) from (own_shl1 (a := max mm (2 * cc + 2)) (by omega))]
  obtain ⟨_, T192, Lc192, X192, hQ192, st192⟩ := own_callS X191 hx hZ hown (own_h hw 192 rfl) (own_h hw 193 rfl) (own_h hw 130 rfl) (own_h hw 194 rfl) (by decide) (rmcpo l Z a0 hw [] va kv (2 * cc) f (2 * (max mm (2 * cc + 2))) h0 n0 Z0 V_va (by omega) (by omega)) (W := 1) (by decide) (by decide) (g := (mkF m 32 #[rv a1, iv (Int32.ofNat (mm)), iv (Int32.ofNat (cc))] [(.int (Int32.ofNat (2 * (max mm (2 * cc + 2))))), (.ref va), (.ref a1)])) rfl (by rw [hml]; rfl) (argsL := [(.ref va), (.int (Int32.ofNat (2 * (max mm (2 * cc + 2)))))]) (rest := [(.ref a1)]) (lenOf pd__28__5b_BI_29__5b_B rfl) rfl (Nat.le_of_eq rfl) (hb hby d12_32) rfl e191 (by decide) (by decide)
  refine own_go st192 ?_
  obtain ⟨b_192, kb_192, rfl, Nq192, K192, g_b_192, sb_b_192, r192_0⟩ := hQ192
  have ne_a1_b_192 : a1 ≠ b_192 := Nat.ne_of_lt (Nat.lt_of_lt_of_le E_a1.lt sb_b_192)
  have ne_va_b_192 : va ≠ b_192 := Nat.ne_of_lt (Nat.lt_of_lt_of_le V_va.lt sb_b_192)
  have sz_b_192 : h0.size ≤ b_192 := Nat.le_trans Kz.1 sb_b_192
  have E_a1_192 := E_a1.keep K192
  have F_value_a1_192 := F_value_a1.keep K192 nin0
  have F_count_a1_192 := F_count_a1.keep K192 nin0
  have F_coder_a1_192 := F_coder_a1.keep K192 nin0
  have F_maybeLatin1_a1_192 := F_maybeLatin1_a1.keep K192 nin0
  have V_va_192 := V_va.keep K192 nin0
  have Z192 : n0 ≤ T192.heap.size := Nat.le_trans Z0 K192.1
  have Kt192 := Kz.trans K192 all0
  have N192 := Fr.app N190 Nq192
  obtain ⟨T193, h193, X193, e193, W193, st193⟩ := putF X192 hx hZ hown (host := "") (Or.inl (own_h hw 55 rfl)) Via.refl rfl F_value_a1_192 E_a1_192 (Or.inl (own_h hw 56 rfl)) (own_h hw 42 rfl) (ty := (.array .byte)) (by decide) rfl rfl (g := (mkF m 35 #[rv a1, iv (Int32.ofNat (mm)), iv (Int32.ofNat (cc))] [(.ref b_192), (.ref a1)])) rfl rfl (hb hby d12_35)
  refine own_by st193 ?_
  have F_value_a1_193 := F_value_a1_192.same W193
  have E_a1_193 := E_a1_192.wr W193
  have F_count_a1_193 := F_count_a1_192.other W193 (Or.inr (slot_ne (Or.inl (own_h hw 72 rfl)) (Or.inl (own_h hw 56 rfl)) (by decide) (t := .int) (t' := (.array .byte)) (by decide) (by decide)))
  have F_coder_a1_193 := F_coder_a1_192.other W193 (Or.inr (slot_ne (Or.inl (own_h hw 58 rfl)) (Or.inl (own_h hw 56 rfl)) (by decide) (t := .byte) (t' := (.array .byte)) (by decide) (by decide)))
  have F_maybeLatin1_a1_193 := F_maybeLatin1_a1_192.other W193 (Or.inr (slot_ne (Or.inl (own_h hw 262 rfl)) (Or.inl (own_h hw 56 rfl)) (by decide) (t := .boolean) (t' := (.array .byte)) (by decide) (by decide)))
  have V_va_193 := V_va_192.other W193 (Ne.symm (Exa.neArv E_a1_192 V_va_192 (own_h hw 42 rfl)))
  have r192_0_193 := r192_0.other W193 (Ne.symm ne_a1_b_192)
  have N193 := Fr.snoc X193 N192 g_a1
  have Z193 : n0 ≤ h193.size := Nat.le_trans Z192 (Keep.of_wr W193).1
  have K193 := Kt192.wr W193 (Or.inl (List.mem_of_getElem? (i := 0) rfl))
  obtain ⟨fs194, hr194, hrun194, hended194, hW194, hsame194⟩ := X193.leave (v := none) (fun _ => rfl)
  refine own_done (X193.returnOut hx hrt (hb hby d12_38) hr194) hrun194 hended194 ⟨_, _, rfl, ?_, ⟨_, rfl⟩, hW194, hsame194.mono (by decide) (by decide)⟩
  show QecG_1 Z a1 va kv cc cnt f mm h0 n0 _ T193.heap _
  rw [e193]
  exact ⟨b_192, kb_192, rfl, N193, K193, g_b_192, sz_b_192, E_a1_193, F_value_a1_193, F_count_a1_193, F_coder_a1_193, F_maybeLatin1_a1_193, r192_0_193⟩
theorem ef_IIIR_4 (m : MethodId) (x0 : Int32) (x1 : Int32) (x2 : Int32) (x3 : Addr) : entryFrame m #[(.int x0), (.int x1), (.int x2), (.ref x3)] 4 = mkF m 0 #[.val (.int x0), .val (.int x1), .val (.int x2), .val (.ref x3)] [] := by first | (simp [entryFrame, mkF, argsToLocals, Value.category]; done) | rfl
def Qpfs (Z : State) (o : Nat) (n : Nat) (M : Nat) (a4 : Addr) (h0 : Heap) (n0 : Nat) (v : Option Value) (h : Heap) (L : List Loc) : Prop := v = some (.int (Int32.ofNat (o))) ∧ Fr n0 L ∧ h = h0
theorem d55_0 : decode jdk_41_method_13_code 0 = .ok (.iload_n 2, 1) := by decide +kernel
theorem d55_1 : decode jdk_41_method_13_code 1 = .ok (.iload_n 0, 1) := by decide +kernel
theorem d55_2 : decode jdk_41_method_13_code 2 = .ok (.ior, 1) := by decide +kernel
theorem d55_3 : decode jdk_41_method_13_code 3 = .ok (.iload_n 1, 1) := by decide +kernel
theorem d55_4 : decode jdk_41_method_13_code 4 = .ok (.ior, 1) := by decide +kernel
theorem d55_5 : decode jdk_41_method_13_code 5 = .ok (.ifCond .lt 10, 3) := by decide +kernel
theorem d55_8 : decode jdk_41_method_13_code 8 = .ok (.iload_n 1, 1) := by decide +kernel
theorem d55_9 : decode jdk_41_method_13_code 9 = .ok (.iload_n 2, 1) := by decide +kernel
theorem d55_10 : decode jdk_41_method_13_code 10 = .ok (.iload_n 0, 1) := by decide +kernel
theorem d55_11 : decode jdk_41_method_13_code 11 = .ok (.isub, 1) := by decide +kernel
theorem d55_12 : decode jdk_41_method_13_code 12 = .ok (.if_icmp .le 11, 3) := by decide +kernel
theorem d55_23 : decode jdk_41_method_13_code 23 = .ok (.iload_n 0, 1) := by decide +kernel
theorem d55_24 : decode jdk_41_method_13_code 24 = .ok (.ireturn, 1) := by decide +kernel
set_option maxRecDepth 65536 in
set_option maxHeartbeats 40000000 in
theorem rmpfs (l : Launch) (Z : State) (a0 : Array Value) (hw : ∀ d ∈ tables_1, d.before a0 Z = true) (ws : List Jvm.Cond) (o : Nat) (n : Nat) (M : Nat) (a4 : Addr) (h0 : Heap) (n0 : Nat) (Z0 : n0 ≤ h0.size) (ho : o + n ≤ M) (hM : M ≤ 128) : own_Met l own_y55 jdk_41_method_13_code 4 (some .int) ws ⟨0, 0, 0, 0⟩ #[(.int (Int32.ofNat (o))), (.int (Int32.ofNat (n))), (.int (Int32.ofNat (M))), (.ref a4)] Z h0 (Qpfs Z o n M a4 h0 n0) := by
  refine own_met (plainFor_of_name pn_jdk_internal_util_Preconditions) (fun p e s m below meth c s₁ hx hby hml hrt hlk hZ hown hnm X0 e0 es0 => ?_)
  have N0 := Fr.nil n0
  rw [ef_IIIR_4 m (Int32.ofNat (o)) (Int32.ofNat (n)) (Int32.ofNat (M)) a4]
  refine own_gk (XS.iloadN X0.here hx rfl (hb hby d55_0) rfl) ?_
  refine own_gk (XS.iloadN X0.here hx rfl (hb hby d55_1) rfl) ?_
  refine own_gk (XS.ior X0.here hx rfl (hb hby d55_2) rfl) ?_
  refine own_gk (XS.iloadN X0.here hx rfl (hb hby d55_3) rfl) ?_
  refine own_gk (XS.ior X0.here hx rfl (hb hby d55_4) rfl) ?_
  show own_Fin _ _ _ _ (s₁.setTop (mkF m 5 #[iv (Int32.ofNat (o)), iv (Int32.ofNat (n)), iv (Int32.ofNat (M)), rv a4] [(.int (((Int32.ofNat (M)) ||| (Int32.ofNat (o))) ||| (Int32.ofNat (n))))]))
  refine own_gk (XS.ifNo X0.here hx rfl (hb hby d55_5) rfl ((if0 _ _).trans (flt (show ¬ ((((Int32.ofNat (M)) ||| (Int32.ofNat (o))) ||| (Int32.ofNat (n))) < (0 : Int32)) from (own_orN (own_orN (own_nn (a := M) (by omega)) (own_nn (a := o) (by omega))) (own_nn (a := n) (by omega))))).1)) ?_
  refine own_gk (XS.iloadN X0.here hx rfl (hb hby d55_8) rfl) ?_
  refine own_gk (XS.iloadN X0.here hx rfl (hb hby d55_9) rfl) ?_
  refine own_gk (XS.iloadN X0.here hx rfl (hb hby d55_10) rfl) ?_
  refine own_gk (XS.isub X0.here hx rfl (hb hby d55_11) rfl) ?_
  show own_Fin _ _ _ _ (s₁.setTop (mkF m 12 #[iv (Int32.ofNat (o)), iv (Int32.ofNat (n)), iv (Int32.ofNat (M)), rv a4] [(.int ((Int32.ofNat (M)) - (Int32.ofNat (o)))), (.int (Int32.ofNat (n)))]))
  rw [show ((Int32.ofNat (M)) - (Int32.ofNat (o))) = Int32.ofNat (M - o) from ((own_subN (a := M) (b := o) (by omega)).trans (congrArg Int32.ofNat (by omega)))]
  refine own_gk (XS.icmpYes X0.here hx rfl (pc0 := 12) (pc' := 23) rfl (hb hby d55_12) rfl (flt (show ¬ ((Int32.ofNat (M - o)) < (Int32.ofNat (n))) from (fun q => absurd ((own_ltN (a := M - o) (b := n) (by omega) (by omega)).mp q) (by omega)))).2.2.2 (by decide) (by decide)) ?_
  refine own_gk (XS.iloadN X0.here hx rfl (hb hby d55_23) rfl) ?_
  obtain ⟨fs195, hr195, hrun195, hended195, hW195, hsame195⟩ := X0.leave (v := some (.int (Int32.ofNat (o)))) (fun h => by rw [hrt] at h; cases h)
  refine own_done (own_retI X0 hx hrt (hb hby d55_24) hr195) hrun195 hended195 ⟨_, _, rfl, ?_, ⟨_, rfl⟩, hW195, hsame195.mono (by decide) (by decide)⟩
  show Qpfs Z o n M a4 h0 n0 _ s₁.heap _
  rw [e0]
  exact ⟨rfl, N0, rfl⟩
theorem ef_III0_4 (m : MethodId) (x0 : Int32) (x1 : Int32) (x2 : Int32) : entryFrame m #[(.int x0), (.int x1), (.int x2), .null] 4 = mkF m 0 #[.val (.int x0), .val (.int x1), .val (.int x2), .val .null] [] := by first | (simp [entryFrame, mkF, argsToLocals, Value.category]; done) | rfl
def Qpfn (Z : State) (o : Nat) (n : Nat) (M : Nat) (h0 : Heap) (n0 : Nat) (v : Option Value) (h : Heap) (L : List Loc) : Prop := v = some (.int (Int32.ofNat (o))) ∧ Fr n0 L ∧ h = h0
set_option maxRecDepth 65536 in
set_option maxHeartbeats 40000000 in
theorem rmpfn (l : Launch) (Z : State) (a0 : Array Value) (hw : ∀ d ∈ tables_1, d.before a0 Z = true) (ws : List Jvm.Cond) (o : Nat) (n : Nat) (M : Nat) (h0 : Heap) (n0 : Nat) (Z0 : n0 ≤ h0.size) (ho : o + n ≤ M) (hM : M ≤ 128) : own_Met l own_y55 jdk_41_method_13_code 4 (some .int) ws ⟨0, 0, 0, 0⟩ #[(.int (Int32.ofNat (o))), (.int (Int32.ofNat (n))), (.int (Int32.ofNat (M))), .null] Z h0 (Qpfn Z o n M h0 n0) := by
  refine own_met (plainFor_of_name pn_jdk_internal_util_Preconditions) (fun p e s m below meth c s₁ hx hby hml hrt hlk hZ hown hnm X0 e0 es0 => ?_)
  have N0 := Fr.nil n0
  rw [ef_III0_4 m (Int32.ofNat (o)) (Int32.ofNat (n)) (Int32.ofNat (M))]
  refine own_gk (XS.iloadN X0.here hx rfl (hb hby d55_0) rfl) ?_
  refine own_gk (XS.iloadN X0.here hx rfl (hb hby d55_1) rfl) ?_
  refine own_gk (XS.ior X0.here hx rfl (hb hby d55_2) rfl) ?_
  refine own_gk (XS.iloadN X0.here hx rfl (hb hby d55_3) rfl) ?_
  refine own_gk (XS.ior X0.here hx rfl (hb hby d55_4) rfl) ?_
  show own_Fin _ _ _ _ (s₁.setTop (mkF m 5 #[iv (Int32.ofNat (o)), iv (Int32.ofNat (n)), iv (Int32.ofNat (M)), .val .null] [(.int (((Int32.ofNat (M)) ||| (Int32.ofNat (o))) ||| (Int32.ofNat (n))))]))
  refine own_gk (XS.ifNo X0.here hx rfl (hb hby d55_5) rfl ((if0 _ _).trans (flt (show ¬ ((((Int32.ofNat (M)) ||| (Int32.ofNat (o))) ||| (Int32.ofNat (n))) < (0 : Int32)) from (own_orN (own_orN (own_nn (a := M) (by omega)) (own_nn (a := o) (by omega))) (own_nn (a := n) (by omega))))).1)) ?_
  refine own_gk (XS.iloadN X0.here hx rfl (hb hby d55_8) rfl) ?_
  refine own_gk (XS.iloadN X0.here hx rfl (hb hby d55_9) rfl) ?_
  refine own_gk (XS.iloadN X0.here hx rfl (hb hby d55_10) rfl) ?_
  refine own_gk (XS.isub X0.here hx rfl (hb hby d55_11) rfl) ?_
  show own_Fin _ _ _ _ (s₁.setTop (mkF m 12 #[iv (Int32.ofNat (o)), iv (Int32.ofNat (n)), iv (Int32.ofNat (M)), .val .null] [(.int ((Int32.ofNat (M)) - (Int32.ofNat (o)))), (.int (Int32.ofNat (n)))]))
  rw [show ((Int32.ofNat (M)) - (Int32.ofNat (o))) = Int32.ofNat (M - o) from ((own_subN (a := M) (b := o) (by omega)).trans (congrArg Int32.ofNat (by omega)))]
  refine own_gk (XS.icmpYes X0.here hx rfl (pc0 := 12) (pc' := 23) rfl (hb hby d55_12) rfl (flt (show ¬ ((Int32.ofNat (M - o)) < (Int32.ofNat (n))) from (fun q => absurd ((own_ltN (a := M - o) (b := n) (by omega) (by omega)).mp q) (by omega)))).2.2.2 (by decide) (by decide)) ?_
  refine own_gk (XS.iloadN X0.here hx rfl (hb hby d55_23) rfl) ?_
  obtain ⟨fs196, hr196, hrun196, hended196, hW196, hsame196⟩ := X0.leave (v := some (.int (Int32.ofNat (o)))) (fun h => by rw [hrt] at h; cases h)
  refine own_done (own_retI X0 hx hrt (hb hby d55_24) hr196) hrun196 hended196 ⟨_, _, rfl, ?_, ⟨_, rfl⟩, hW196, hsame196.mono (by decide) (by decide)⟩
  show Qpfn Z o n M h0 n0 _ s₁.heap _
  rw [e0]
  exact ⟨rfl, N0, rfl⟩
theorem ef_III_3 (m : MethodId) (x0 : Int32) (x1 : Int32) (x2 : Int32) : entryFrame m #[(.int x0), (.int x1), (.int x2)] 3 = mkF m 0 #[.val (.int x0), .val (.int x1), .val (.int x2)] [] := by first | (simp [entryFrame, mkF, argsToLocals, Value.category]; done) | rfl
def Qbo (Z : State) (o : Nat) (n : Nat) (M : Nat) (h0 : Heap) (n0 : Nat) (v : Option Value) (h : Heap) (L : List Loc) : Prop := v = some (.int (Int32.ofNat (o))) ∧ Fr n0 L ∧ h = h0
theorem d54_0 : decode jdk_42_method_157_code 0 = .ok (.iload_n 0, 1) := by decide +kernel
theorem d54_1 : decode jdk_42_method_157_code 1 = .ok (.iload_n 1, 1) := by decide +kernel
theorem d54_2 : decode jdk_42_method_157_code 2 = .ok (.iload_n 2, 1) := by decide +kernel
theorem d54_3 : decode jdk_42_method_157_code 3 = .ok (.getstatic 1053, 3) := by decide +kernel
theorem d54_6 : decode jdk_42_method_157_code 6 = .ok (.invokestatic 1065, 3) := by decide +kernel
theorem pd__28_IIILjava_2f_util_2f_function_2f_BiFunction_3b__29_I : parseMethodDescriptor "(IIILjava/util/function/BiFunction;)I" = some ⟨[.int, .int, .int, (.object "java/util/function/BiFunction")], some .int⟩ := by decide +kernel
theorem d54_9 : decode jdk_42_method_157_code 9 = .ok (.ireturn, 1) := by decide +kernel
set_option maxRecDepth 65536 in
set_option maxHeartbeats 40000000 in
theorem rmbo (l : Launch) (Z : State) (a0 : Array Value) (hw : ∀ d ∈ tables_1, d.before a0 Z = true) (ws : List Jvm.Cond) (o : Nat) (n : Nat) (M : Nat) (h0 : Heap) (n0 : Nat) (Z0 : n0 ≤ h0.size) (ho : o + n ≤ M) (hM : M ≤ 128) (O0 : own_Old Z n0 h0) (hST : own_ST Z) : own_Met l own_y54 jdk_42_method_157_code 3 (some .int) ws ⟨1, 0, 0, 15⟩ #[(.int (Int32.ofNat (o))), (.int (Int32.ofNat (n))), (.int (Int32.ofNat (M)))] Z h0 (Qbo Z o n M h0 n0) := by
  refine own_met (plainFor_of_name pn_java_lang_String) (fun p e s m below meth c s₁ hx hby hml hrt hlk hZ hown hnm X0 e0 es0 => ?_)
  have N0 := Fr.nil n0
  rw [ef_III_3 m (Int32.ofNat (o)) (Int32.ofNat (n)) (Int32.ofNat (M))]
  obtain ⟨ct, sv, hct, hsv, S__assertionsDisabled, S_HI_BYTE_SHIFT, S_LO_BYTE_SHIFT, S_COMPACT_STRINGS, S_SIOOBE_FORMATTER⟩ := id hST
  rcases hsv with rfl | ⟨sf, rfl⟩
  · refine own_gk (XS.iloadN X0.here hx rfl (hb hby d54_0) rfl) ?_
    refine own_gk (XS.iloadN X0.here hx rfl (hb hby d54_1) rfl) ?_
    refine own_gk (XS.iloadN X0.here hx rfl (hb hby d54_2) rfl) ?_
    obtain ⟨T197, X197, e197, st197⟩ := getS2 X0 hx hZ hown (host := "") (Or.inl (own_h hw 162 rfl)) Via.refl e0 (S_SIOOBE_FORMATTER.ext O0.2) (g := (mkF m 3 #[iv (Int32.ofNat (o)), iv (Int32.ofNat (n)), iv (Int32.ofNat (M))] [(.int (Int32.ofNat (M))), (.int (Int32.ofNat (n))), (.int (Int32.ofNat (o)))])) rfl (hb hby d54_3)
    refine own_by st197 ?_
    show own_Fin _ _ _ _ (T197.setTop (mkF m 6 #[iv (Int32.ofNat (o)), iv (Int32.ofNat (n)), iv (Int32.ofNat (M))] [.null, (.int (Int32.ofNat (M))), (.int (Int32.ofNat (n))), (.int (Int32.ofNat (o)))]))
    obtain ⟨_, T198, Lc198, X198, hQ198, st198⟩ := own_callS X197 hx hZ hown (own_h hw 257 rfl) (own_h hw 258 rfl) (own_h hw 163 rfl) (own_h hw 259 rfl) (by decide) (rmpfn l Z a0 hw [] o n M h0 n0 Z0 ho hM) (W := 0) (by decide) (by decide) (g := (mkF m 6 #[iv (Int32.ofNat (o)), iv (Int32.ofNat (n)), iv (Int32.ofNat (M))] [.null, (.int (Int32.ofNat (M))), (.int (Int32.ofNat (n))), (.int (Int32.ofNat (o)))])) rfl (by rw [hml]; rfl) (argsL := [(.int (Int32.ofNat (o))), (.int (Int32.ofNat (n))), (.int (Int32.ofNat (M))), .null]) (rest := []) (lenOf pd__28_IIILjava_2f_util_2f_function_2f_BiFunction_3b__29_I rfl) rfl (Nat.le_of_eq rfl) (hb hby d54_6) rfl e197 (by decide) (by decide)
    obtain ⟨rfl, Nq198, e198⟩ := hQ198
    refine own_go st198 ?_
    have N198 := Fr.app N0 Nq198
    obtain ⟨fs199, hr199, hrun199, hended199, hW199, hsame199⟩ := X198.leave (v := some (.int (Int32.ofNat (o)))) (fun h => by rw [hrt] at h; cases h)
    refine own_done (own_retI X198 hx hrt (hb hby d54_9) hr199) hrun199 hended199 ⟨_, _, rfl, ?_, ⟨_, rfl⟩, hW199, hsame199.mono (by decide) (by decide)⟩
    show Qbo Z o n M h0 n0 _ T198.heap _
    rw [e198]
    exact ⟨rfl, N198, rfl⟩
  · refine own_gk (XS.iloadN X0.here hx rfl (hb hby d54_0) rfl) ?_
    refine own_gk (XS.iloadN X0.here hx rfl (hb hby d54_1) rfl) ?_
    refine own_gk (XS.iloadN X0.here hx rfl (hb hby d54_2) rfl) ?_
    obtain ⟨T200, X200, e200, st200⟩ := getS2 X0 hx hZ hown (host := "") (Or.inl (own_h hw 162 rfl)) Via.refl e0 (S_SIOOBE_FORMATTER.ext O0.2) (g := (mkF m 3 #[iv (Int32.ofNat (o)), iv (Int32.ofNat (n)), iv (Int32.ofNat (M))] [(.int (Int32.ofNat (M))), (.int (Int32.ofNat (n))), (.int (Int32.ofNat (o)))])) rfl (hb hby d54_3)
    refine own_by st200 ?_
    show own_Fin _ _ _ _ (T200.setTop (mkF m 6 #[iv (Int32.ofNat (o)), iv (Int32.ofNat (n)), iv (Int32.ofNat (M))] [(.ref sf), (.int (Int32.ofNat (M))), (.int (Int32.ofNat (n))), (.int (Int32.ofNat (o)))]))
    obtain ⟨_, T201, Lc201, X201, hQ201, st201⟩ := own_callS X200 hx hZ hown (own_h hw 257 rfl) (own_h hw 258 rfl) (own_h hw 163 rfl) (own_h hw 259 rfl) (by decide) (rmpfs l Z a0 hw [] o n M sf h0 n0 Z0 ho hM) (W := 0) (by decide) (by decide) (g := (mkF m 6 #[iv (Int32.ofNat (o)), iv (Int32.ofNat (n)), iv (Int32.ofNat (M))] [(.ref sf), (.int (Int32.ofNat (M))), (.int (Int32.ofNat (n))), (.int (Int32.ofNat (o)))])) rfl (by rw [hml]; rfl) (argsL := [(.int (Int32.ofNat (o))), (.int (Int32.ofNat (n))), (.int (Int32.ofNat (M))), (.ref sf)]) (rest := []) (lenOf pd__28_IIILjava_2f_util_2f_function_2f_BiFunction_3b__29_I rfl) rfl (Nat.le_of_eq rfl) (hb hby d54_6) rfl e200 (by decide) (by decide)
    obtain ⟨rfl, Nq201, e201⟩ := hQ201
    refine own_go st201 ?_
    have N201 := Fr.app N0 Nq201
    obtain ⟨fs202, hr202, hrun202, hended202, hW202, hsame202⟩ := X201.leave (v := some (.int (Int32.ofNat (o)))) (fun h => by rw [hrt] at h; cases h)
    refine own_done (own_retI X201 hx hrt (hb hby d54_9) hr202) hrun202 hended202 ⟨_, _, rfl, ?_, ⟨_, rfl⟩, hW202, hsame202.mono (by decide) (by decide)⟩
    show Qbo Z o n M h0 n0 _ T201.heap _
    rw [e201]
    exact ⟨rfl, N201, rfl⟩
def Qubo (Z : State) (o : Nat) (n : Nat) (M : Nat) (a3 : Addr) (k : ClassId) (f : Nat → Int32) (h0 : Heap) (n0 : Nat) (v : Option Value) (h : Heap) (L : List Loc) : Prop := v = none ∧ Fr n0 L ∧ h = h0
theorem d52_0 : decode jdk_52_method_94_code 0 = .ok (.iload_n 0, 1) := by decide +kernel
theorem d52_1 : decode jdk_52_method_94_code 1 = .ok (.iload_n 1, 1) := by decide +kernel
theorem d52_2 : decode jdk_52_method_94_code 2 = .ok (.aload_n 2, 1) := by decide +kernel
theorem d52_3 : decode jdk_52_method_94_code 3 = .ok (.invokestatic 48, 3) := by decide +kernel
theorem d52_6 : decode jdk_52_method_94_code 6 = .ok (.invokestatic 419, 3) := by decide +kernel
theorem d52_9 : decode jdk_52_method_94_code 9 = .ok (.pop, 1) := by decide +kernel
theorem d52_10 : decode jdk_52_method_94_code 10 = .ok (.return_, 1) := by decide +kernel
set_option maxRecDepth 65536 in
set_option maxHeartbeats 40000000 in
theorem rmubo (l : Launch) (Z : State) (a0 : Array Value) (hw : ∀ d ∈ tables_1, d.before a0 Z = true) (ws : List Jvm.Cond) (o : Nat) (n : Nat) (M : Nat) (a3 : Addr) (k : ClassId) (f : Nat → Int32) (h0 : Heap) (n0 : Nat) (Z0 : n0 ≤ h0.size) (V_a3 : Arv Z h0 a3 k .byte (Int32.ofNat (2 * M)) (List.map Value.int (own_R f (2 * M))) (.int (0 : Int32))) (ho : o + n ≤ M) (hM : M ≤ 128) (O0 : own_Old Z n0 h0) (hST : own_ST Z) : own_Met l own_y52 jdk_52_method_94_code 3 none ws ⟨2, 0, 0, 29⟩ #[(.int (Int32.ofNat (o))), (.int (Int32.ofNat (n))), (.ref a3)] Z h0 (Qubo Z o n M a3 k f h0 n0) := by
  refine own_met (plainFor_of_name pn_java_lang_StringUTF16) (fun p e s m below meth c s₁ hx hby hml hrt hlk hZ hown hnm X0 e0 es0 => ?_)
  have N0 := Fr.nil n0
  rw [ef_IIR_3 m (Int32.ofNat (o)) (Int32.ofNat (n)) a3]
  refine own_gk (XS.iloadN X0.here hx rfl (hb hby d52_0) rfl) ?_
  refine own_gk (XS.iloadN X0.here hx rfl (hb hby d52_1) rfl) ?_
  refine own_gk (XS.aloadN X0.here hx rfl (hb hby d52_2) rfl rfl) ?_
  obtain ⟨_, T203, Lc203, X203, hQ203, st203⟩ := own_callS X0 hx hZ hown (own_h hw 251 rfl) (own_h hw 252 rfl) (own_h hw 170 rfl) (own_h hw 253 rfl) (by decide) (rmul l Z a0 hw [] a3 k M f h0 n0 Z0 V_a3 hM) (W := 2) (by decide) (by decide) (g := (mkF m 3 #[iv (Int32.ofNat (o)), iv (Int32.ofNat (n)), rv a3] [(.ref a3), (.int (Int32.ofNat (n))), (.int (Int32.ofNat (o)))])) rfl (by rw [hml]; rfl) (argsL := [(.ref a3)]) (rest := [(.int (Int32.ofNat (n))), (.int (Int32.ofNat (o)))]) (lenOf pd__28__5b_B_29_I rfl) rfl (Nat.le_of_eq rfl) (hb hby d52_3) rfl e0 (by decide) (by decide)
  obtain ⟨rfl, Nq203, e203⟩ := hQ203
  refine own_go st203 ?_
  have N203 := Fr.app N0 Nq203
  obtain ⟨_, T204, Lc204, X204, hQ204, st204⟩ := own_callS X203 hx hZ hown (own_h hw 254 rfl) (own_h hw 255 rfl) (own_h hw 7 rfl) (own_h hw 256 rfl) (by decide) (rmbo l Z a0 hw [] o n M h0 n0 Z0 ho hM O0 hST) (W := 0) (by decide) (by decide) (g := (mkF m 6 #[iv (Int32.ofNat (o)), iv (Int32.ofNat (n)), rv a3] [(.int (Int32.ofNat (M))), (.int (Int32.ofNat (n))), (.int (Int32.ofNat (o)))])) rfl (by rw [hml]; rfl) (argsL := [(.int (Int32.ofNat (o))), (.int (Int32.ofNat (n))), (.int (Int32.ofNat (M)))]) (rest := []) (lenOf pd__28_III_29_I rfl) rfl (Nat.le_of_eq rfl) (hb hby d52_6) rfl e203 (by decide) (by decide)
  obtain ⟨rfl, Nq204, e204⟩ := hQ204
  refine own_go st204 ?_
  have N204 := Fr.app N203 Nq204
  show own_Fin _ _ _ _ (T204.setTop (mkF m 9 #[iv (Int32.ofNat (o)), iv (Int32.ofNat (n)), rv a3] [(.int (Int32.ofNat (o)))]))
  refine own_gk (XS.pop X204.here hx rfl (hb hby d52_9) rfl rfl) ?_
  obtain ⟨fs205, hr205, hrun205, hended205, hW205, hsame205⟩ := X204.leave (v := none) (fun _ => rfl)
  refine own_done (X204.returnOut hx hrt (hb hby d52_10) hr205) hrun205 hended205 ⟨_, _, rfl, ?_, ⟨_, rfl⟩, hW205, hsame205.mono (by decide) (by decide)⟩
  show Qubo Z o n M a3 k f h0 n0 _ T204.heap _
  rw [e204]
  exact ⟨rfl, N204, rfl⟩
theorem own_cpfz (g f : Nat → Int32) (d s j : Nat) : own_cpf g f d s (2 * 0) j = g j := by
  unfold own_cpf; rw [if_neg (by omega)]
theorem own_inf2 {g g1 ds : Nat → Int32} {o i M : Nat} (h : ∀ j, j < M → g1 j = own_cpf g (own_u ds) (2 * o) 0 (2 * i) j) : ∀ j, j < M → own_up (own_up g1 (2 * (o + i)) (own_lb (ds i))) (2 * (o + i) + 1) (own_hb (ds i)) j = own_cpf g (own_u ds) (2 * o) 0 (2 * (i + 1)) j := fun j hj => by
  by_cases q : j = 2 * (o + i) + 1
  · rw [q, own_up_self]; unfold own_cpf; rw [if_pos ⟨by omega, by omega⟩, show 0 + (2 * (o + i) + 1 - 2 * o) = 2 * i + 1 by omega, own_u1]
  · rw [own_up_ne _ _ q]
    by_cases r : j = 2 * (o + i)
    · rw [r, own_up_self]; unfold own_cpf; rw [if_pos ⟨by omega, by omega⟩, show 0 + (2 * (o + i) - 2 * o) = 2 * i by omega, own_u0]
    · rw [own_up_ne _ _ r, h j hj]; unfold own_cpf
      by_cases t : 2 * o ≤ j ∧ j < 2 * o + 2 * i
      · rw [if_pos t, if_pos ⟨t.1, by omega⟩]
      · rw [if_neg t, if_neg (by omega)]
theorem ef_RIRII_6 (m : MethodId) (x0 : Addr) (x1 : Int32) (x2 : Addr) (x3 : Int32) (x4 : Int32) : entryFrame m #[(.ref x0), (.int x1), (.ref x2), (.int x3), (.int x4)] 6 = mkF m 0 #[.val (.ref x0), .val (.int x1), .val (.ref x2), .val (.int x3), .val (.int x4), .unset] [] := by first | (simp [entryFrame, mkF, argsToLocals, Value.category]; done) | rfl
def Quinf (Z : State) (a1 : Addr) (k : ClassId) (LL : Nat) (f : Nat → Int32) (ds : Nat → Int32) (a3 : Addr) (kb : ClassId) (M : Nat) (g : Nat → Int32) (o : Nat) (n : Nat) (h0 : Heap) (n0 : Nat) (v : Option Value) (h : Heap) (L : List Loc) : Prop := v = none ∧ Fr n0 L ∧ Keep h0 h [a3] ∧ Arv Z h a3 kb .byte (Int32.ofNat (2 * M)) (List.map Value.int (own_R (own_cpf g (own_u ds) (2 * o) 0 (2 * n)) (2 * M))) (.int (0 : Int32))
theorem d51_0 : decode jdk_52_method_86_code 0 = .ok (.iload_n 3, 1) := by decide +kernel
theorem d51_1 : decode jdk_52_method_86_code 1 = .ok (.iload 4, 2) := by decide +kernel
theorem d51_3 : decode jdk_52_method_86_code 3 = .ok (.aload_n 2, 1) := by decide +kernel
theorem d51_4 : decode jdk_52_method_86_code 4 = .ok (.invokestatic 173, 3) := by decide +kernel
theorem pd__28_II_5b_B_29_V : parseMethodDescriptor "(II[B)V" = some ⟨[.int, .int, (.array .byte)], none⟩ := by decide +kernel
theorem d51_7 : decode jdk_52_method_86_code 7 = .ok (.iconst 0, 1) := by decide +kernel
theorem d51_8 : decode jdk_52_method_86_code 8 = .ok (.istore 5, 2) := by decide +kernel
theorem d51_10 : decode jdk_52_method_86_code 10 = .ok (.iload 5, 2) := by decide +kernel
theorem d51_12 : decode jdk_52_method_86_code 12 = .ok (.iload 4, 2) := by decide +kernel
theorem d51_14 : decode jdk_52_method_86_code 14 = .ok (.if_icmp .ge 27, 3) := by decide +kernel
theorem d51_41 : decode jdk_52_method_86_code 41 = .ok (.return_, 1) := by decide +kernel
theorem d51_17 : decode jdk_52_method_86_code 17 = .ok (.aload_n 2, 1) := by decide +kernel
theorem d51_18 : decode jdk_52_method_86_code 18 = .ok (.iload_n 3, 1) := by decide +kernel
theorem d51_19 : decode jdk_52_method_86_code 19 = .ok (.iinc 3 1, 3) := by decide +kernel
theorem d51_22 : decode jdk_52_method_86_code 22 = .ok (.aload_n 0, 1) := by decide +kernel
theorem d51_23 : decode jdk_52_method_86_code 23 = .ok (.iload_n 1, 1) := by decide +kernel
theorem d51_24 : decode jdk_52_method_86_code 24 = .ok (.iinc 1 1, 3) := by decide +kernel
theorem d51_27 : decode jdk_52_method_86_code 27 = .ok (.baload, 1) := by decide +kernel
theorem d51_28 : decode jdk_52_method_86_code 28 = .ok (.sipush 255, 3) := by decide +kernel
theorem d51_31 : decode jdk_52_method_86_code 31 = .ok (.iand, 1) := by decide +kernel
theorem d51_32 : decode jdk_52_method_86_code 32 = .ok (.invokestatic 111, 3) := by decide +kernel
theorem d51_35 : decode jdk_52_method_86_code 35 = .ok (.iinc 5 1, 3) := by decide +kernel
theorem d51_38 : decode jdk_52_method_86_code 38 = .ok (.goto (-28), 3) := by decide +kernel
set_option maxRecDepth 65536 in
set_option maxHeartbeats 40000000 in
theorem rmuinf (l : Launch) (Z : State) (a0 : Array Value) (hw : ∀ d ∈ tables_1, d.before a0 Z = true) (ws : List Jvm.Cond) (a1 : Addr) (k : ClassId) (LL : Nat) (f : Nat → Int32) (ds : Nat → Int32) (a3 : Addr) (kb : ClassId) (M : Nat) (g : Nat → Int32) (o : Nat) (n : Nat) (h0 : Heap) (n0 : Nat) (Z0 : n0 ≤ h0.size) (V_a1 : Arv Z h0 a1 k .byte (Int32.ofNat (LL)) (List.map Value.int (own_R f LL)) (.int (0 : Int32))) (V_a3 : Arv Z h0 a3 kb .byte (Int32.ofNat (2 * M)) (List.map Value.int (own_R g (2 * M))) (.int (0 : Int32))) (g_a3 : n0 ≤ a3) (ne13 : a1 ≠ a3) (O0 : own_Old Z n0 h0) (hST : own_ST Z) (hf : ∀ j, j < n → f j = own_lo ds j) (hdl : ∀ j, j < n → ¬ (255 : Int32) < ds j) (hdc : ∀ j, own_ch (ds j)) (hnL : n ≤ LL) (hL : LL ≤ 128) (ho : o + n ≤ M) (hM : M ≤ 128) : own_Met l own_y51 jdk_52_method_86_code 6 none ws ⟨3, 0, 0, 43⟩ #[(.ref a1), (.int (0 : Int32)), (.ref a3), (.int (Int32.ofNat (o))), (.int (Int32.ofNat (n)))] Z h0 (Quinf Z a1 k LL f ds a3 kb M g o n h0 n0) := by
  refine own_met (plainFor_of_name pn_java_lang_StringUTF16) (fun p e s m below meth c s₁ hx hby hml hrt hlk hZ hown hnm X0 e0 es0 => ?_)
  have N0 := Fr.nil n0
  rw [ef_RIRII_6 m a1 (0 : Int32) a3 (Int32.ofNat (o)) (Int32.ofNat (n))]
  have Kz := Keep.refl h0 [a3]
  refine own_gk (XS.iloadN X0.here hx rfl (hb hby d51_0) rfl) ?_
  refine own_gk (XS.iload X0.here hx rfl (hb hby d51_1) rfl) ?_
  refine own_gk (XS.aloadN X0.here hx rfl (hb hby d51_3) rfl rfl) ?_
  obtain ⟨_, T206, Lc206, X206, hQ206, st206⟩ := own_callS X0 hx hZ hown (own_h hw 248 rfl) (own_h hw 249 rfl) (own_h hw 170 rfl) (own_h hw 250 rfl) (by decide) (rmubo l Z a0 hw [] o n M a3 kb g h0 n0 Z0 V_a3 ho hM O0 hST) (W := 0) (by decide) (by decide) (g := (mkF m 4 #[rv a1, iv (0 : Int32), rv a3, iv (Int32.ofNat (o)), iv (Int32.ofNat (n)), .unset] [(.ref a3), (.int (Int32.ofNat (n))), (.int (Int32.ofNat (o)))])) rfl (by rw [hml]; rfl) (argsL := [(.int (Int32.ofNat (o))), (.int (Int32.ofNat (n))), (.ref a3)]) (rest := []) (lenOf pd__28_II_5b_B_29_V rfl) rfl (Nat.le_of_eq rfl) (hb hby d51_4) rfl e0 (by decide) (by decide)
  obtain ⟨rfl, Nq206, e206⟩ := hQ206
  refine own_go st206 ?_
  have N206 := Fr.app N0 Nq206
  refine own_gk (XS.iconst X206.here hx rfl (hb hby d51_7)) ?_
  show own_Fin _ _ _ _ (T206.setTop (mkF m 8 #[rv a1, iv (0 : Int32), rv a3, iv (Int32.ofNat (o)), iv (Int32.ofNat (n)), .unset] [(.int (0 : Int32))]))
  refine own_gk (XS.istore X206.here hx rfl (hb hby d51_8) rfl rfl) ?_
  have lp207 : ∀ (d : Nat) (Tj207 : State) (Lj207 : List Loc) (hp207 : Heap) (i : Nat) (g1 : Nat → Int32), Stand p l e ⟨3, 0, 0, 43⟩ s m #[(.ref a1), (.int (0 : Int32)), (.ref a3), (.int (Int32.ofNat (o))), (.int (Int32.ofNat (n)))] below meth c Tj207 Lj207 0 0 → Tj207.heap = hp207 → Fr n0 Lj207 → n0 ≤ hp207.size → Keep h0 hp207 [a3] → (Arv Z hp207 a3 kb .byte (Int32.ofNat (2 * M)) (List.map Value.int (own_R g1 (2 * M))) (.int (0 : Int32))) → (i + d = n ∧ ∀ j, j < 2 * M → g1 j = own_cpf g (own_u ds) (2 * o) 0 (2 * i) j) → own_Fin p e below (own_Gq (Quinf Z a1 k LL f ds a3 kb M g o n h0 n0) ⟨3, 0, 0, 43⟩ s) (Tj207.setTop (mkF m 10 #[rv a1, iv (Int32.ofNat (i)), rv a3, iv (Int32.ofNat (o + i)), iv (Int32.ofNat (n)), iv (Int32.ofNat (i))] [])) := by
    intro d
    induction d with
    | zero =>
      intro Tj207 Lj207 hp207 i g1 Xj207 ej207 Nj207 Zj207 Kj207 Vj207_0 hv207
      have V_a1_j207 := V_a1.keep Kj207 (ninS ne13 nin0)
      have Oj207 := O0.keep Kj207 (allS g_a3 all0)
      obtain ⟨hv1, hv2⟩ := hv207
      refine own_gk (XS.iload Xj207.here hx rfl (hb hby d51_10) rfl) ?_
      refine own_gk (XS.iload Xj207.here hx rfl (hb hby d51_12) rfl) ?_
      refine own_gk (XS.icmpYes Xj207.here hx rfl (pc0 := 14) (pc' := 41) rfl (hb hby d51_14) rfl (flt (show ¬ ((Int32.ofNat (i)) < (Int32.ofNat (n))) from (fun q => absurd ((own_ltN (a := i) (b := n) (by omega) (by omega)).mp q) (by omega)))).2.1 (by decide) (by decide)) ?_
      show own_Fin _ _ _ _ (Tj207.setTop (mkF m 41 #[rv a1, iv (Int32.ofNat (i)), rv a3, iv (Int32.ofNat (o + i)), iv (Int32.ofNat (n)), iv (Int32.ofNat (i))] []))
      obtain ⟨fs208, hr208, hrun208, hended208, hW208, hsame208⟩ := Xj207.leave (v := none) (fun _ => rfl)
      refine own_done (Xj207.returnOut hx hrt (hb hby d51_41) hr208) hrun208 hended208 ⟨_, _, rfl, ?_, ⟨_, rfl⟩, hW208, hsame208.mono (by decide) (by decide)⟩
      show Quinf Z a1 k LL f ds a3 kb M g o n h0 n0 _ Tj207.heap _
      rw [ej207]
      exact ⟨rfl, Nj207, Kj207, (own_arvm Vj207_0 (own_congR (f := g1) (g := own_cpf g (own_u ds) (2 * o) 0 (2 * n)) (n := 2 * M) (fun j hj => by rw [hv2 j hj, show i = n by omega])))⟩
    | succ d ih207 =>
      intro Tj207 Lj207 hp207 i g1 Xj207 ej207 Nj207 Zj207 Kj207 Vj207_0 hv207
      have V_a1_j207 := V_a1.keep Kj207 (ninS ne13 nin0)
      have Oj207 := O0.keep Kj207 (allS g_a3 all0)
      obtain ⟨hv1, hv2⟩ := hv207
      refine own_gk (XS.iload Xj207.here hx rfl (hb hby d51_10) rfl) ?_
      refine own_gk (XS.iload Xj207.here hx rfl (hb hby d51_12) rfl) ?_
      refine own_gk (XS.icmpNo Xj207.here hx rfl (hb hby d51_14) rfl (tlt (show (Int32.ofNat (i)) < (Int32.ofNat (n)) from ((own_ltN (a := i) (b := n) (by omega) (by omega)).mpr (by omega)))).2.1) ?_
      show own_Fin _ _ _ _ (Tj207.setTop (mkF m 17 #[rv a1, iv (Int32.ofNat (i)), rv a3, iv (Int32.ofNat (o + i)), iv (Int32.ofNat (n)), iv (Int32.ofNat (i))] []))
      refine own_gk (XS.aloadN Xj207.here hx rfl (hb hby d51_17) rfl rfl) ?_
      refine own_gk (XS.iloadN Xj207.here hx rfl (hb hby d51_18) rfl) ?_
      refine own_gk (XS.iinc Xj207.here hx rfl (hb hby d51_19) rfl rfl) ?_
      show own_Fin _ _ _ _ (Tj207.setTop (mkF m 22 #[rv a1, iv (Int32.ofNat (i)), rv a3, iv ((Int32.ofNat (o + i)) + (1 : Int32)), iv (Int32.ofNat (n)), iv (Int32.ofNat (i))] [(.int (Int32.ofNat (o + i))), (.ref a3)]))
      rw [show ((Int32.ofNat (o + i)) + (1 : Int32)) = Int32.ofNat (o + i + 1) from (own_addN (o + i) 1)]
      refine own_gk (XS.aloadN Xj207.here hx rfl (hb hby d51_22) rfl rfl) ?_
      refine own_gk (XS.iloadN Xj207.here hx rfl (hb hby d51_23) rfl) ?_
      refine own_gk (XS.iinc Xj207.here hx rfl (hb hby d51_24) rfl rfl) ?_
      show own_Fin _ _ _ _ (Tj207.setTop (mkF m 27 #[rv a1, iv ((Int32.ofNat (i)) + (1 : Int32)), rv a3, iv (Int32.ofNat (o + i + 1)), iv (Int32.ofNat (n)), iv (Int32.ofNat (i))] [(.int (Int32.ofNat (i))), (.ref a1), (.int (Int32.ofNat (o + i))), (.ref a3)]))
      rw [show ((Int32.ofNat (i)) + (1 : Int32)) = Int32.ofNat (i + 1) from (own_addN i 1)]
      obtain ⟨cl209, Ar209, qa209, Sa209, Na209, Ha209, Ga209⟩ := id V_a1_j207
      have hin209 : ¬ ((Int32.ofNat (i)) < 0 ∨ cl209.slots.size ≤ ((Int32.ofNat (i))).toNatClampNeg) := inb_of Sa209 (own_inb (i := i) (n := LL) (by omega) (by omega))
      have hat209 : cl209.slots[((Int32.ofNat (i))).toNatClampNeg]? = some (.int (f i)) := Has.at Ha209 hin209 (own_getV (i := i) (n := LL) (by omega) (by omega))
      refine own_by (Xj207.baloadBytes hx (j := (Int32.ofNat (i))) (v := (.int (f i))) (by rw [ej207]; exact Ar209.1) (State.isArrayOf_alike hZ.alike Ar209.2.1) Ar209.2.2 hin209 hat209 (g := (mkF m 27 #[rv a1, iv (Int32.ofNat (i + 1)), rv a3, iv (Int32.ofNat (o + i + 1)), iv (Int32.ofNat (n)), iv (Int32.ofNat (i))] [(.int (Int32.ofNat (i))), (.ref a1), (.int (Int32.ofNat (o + i))), (.ref a3)])) rfl rfl (hb hby d51_27)) ?_
      refine own_gk (XS.sipush Xj207.here hx rfl (hb hby d51_28)) ?_
      refine own_gk (XS.iand Xj207.here hx rfl (hb hby d51_31) rfl) ?_
      show own_Fin _ _ _ _ (Tj207.setTop (mkF m 32 #[rv a1, iv (Int32.ofNat (i + 1)), rv a3, iv (Int32.ofNat (o + i + 1)), iv (Int32.ofNat (n)), iv (Int32.ofNat (i))] [(.int ((f i) &&& (255 : Int32))), (.int (Int32.ofNat (o + i))), (.ref a3)]))
      rw [show ((f i) &&& (255 : Int32)) = (ds i) from (by rw [hf i (by omega)]; exact own_lo255 (hdc i) (hdl i (by omega)))]
      obtain ⟨_, T210, Lc210, X210, hQ210, st210⟩ := own_callS Xj207 hx hZ hown (own_h hw 226 rfl) (own_h hw 227 rfl) (own_h hw 170 rfl) (own_h hw 228 rfl) (by decide) (rmpc l Z a0 hw [] a3 kb (2 * M) g1 (o + i) (ds i) hp207 n0 Zj207 Vj207_0 g_a3 Oj207 hST (by omega) (by omega)) (W := 0) (by decide) (by decide) (g := (mkF m 32 #[rv a1, iv (Int32.ofNat (i + 1)), rv a3, iv (Int32.ofNat (o + i + 1)), iv (Int32.ofNat (n)), iv (Int32.ofNat (i))] [(.int (ds i)), (.int (Int32.ofNat (o + i))), (.ref a3)])) rfl (by rw [hml]; rfl) (argsL := [(.ref a3), (.int (Int32.ofNat (o + i))), (.int (ds i))]) (rest := []) (lenOf pd__28__5b_BII_29_V rfl) rfl (Nat.le_of_eq rfl) (hb hby d51_32) rfl ej207 (by decide) (by decide)
      refine own_go st210 ?_
      obtain ⟨rfl, Nq210, K210, r210_0⟩ := hQ210
      have Od210 := Oj207.keep K210 (allS g_a3 all0)
      have V_a1_j207_210 := V_a1_j207.keep K210 (ninS ne13 nin0)
      have Z210 : n0 ≤ T210.heap.size := Nat.le_trans Zj207 K210.1
      have Kt210 := Kj207.trans K210 (allS (P := fun x => x ∈ _ ∨ _ ≤ x) (Or.inl (List.mem_of_getElem? (i := 0) rfl)) all0)
      have N210 := Fr.app Nj207 Nq210
      refine own_gk (XS.iinc X210.here hx rfl (hb hby d51_35) rfl rfl) ?_
      show own_Fin _ _ _ _ (T210.setTop (mkF m 38 #[rv a1, iv (Int32.ofNat (i + 1)), rv a3, iv (Int32.ofNat (o + i + 1)), iv (Int32.ofNat (n)), iv ((Int32.ofNat (i)) + (1 : Int32))] []))
      rw [show ((Int32.ofNat (i)) + (1 : Int32)) = Int32.ofNat (i + 1) from (own_addN i 1)]
      refine own_gk (XS.goto X210.here hx rfl (pc0 := 38) (pc' := 10) rfl (hb hby d51_38) (by decide) (by decide)) ?_
      exact ih207 T210 _ T210.heap (i + 1) (own_up (own_up g1 (2 * (o + i)) (own_lb (ds i))) (2 * (o + i) + 1) (own_hb (ds i))) X210 rfl N210 Z210 Kt210 r210_0 (⟨by omega, own_inf2 hv2⟩)
  exact lp207 n T206 _ h0 0 g X206 e206 N206 Z0 Kz V_a3 (⟨by omega, fun j hj => (own_cpfz g _ _ _ j).symm⟩)
theorem ef_RIRII_5 (m : MethodId) (x0 : Addr) (x1 : Int32) (x2 : Addr) (x3 : Int32) (x4 : Int32) : entryFrame m #[(.ref x0), (.int x1), (.ref x2), (.int x3), (.int x4)] 5 = mkF m 0 #[.val (.ref x0), .val (.int x1), .val (.ref x2), .val (.int x3), .val (.int x4)] [] := by first | (simp [entryFrame, mkF, argsToLocals, Value.category]; done) | rfl
def Qlinf (Z : State) (a1 : Addr) (k : ClassId) (LL : Nat) (f : Nat → Int32) (ds : Nat → Int32) (a3 : Addr) (kb : ClassId) (M : Nat) (g : Nat → Int32) (o : Nat) (n : Nat) (h0 : Heap) (n0 : Nat) (v : Option Value) (h : Heap) (L : List Loc) : Prop := v = none ∧ Fr n0 L ∧ Keep h0 h [a3] ∧ Arv Z h a3 kb .byte (Int32.ofNat (2 * M)) (List.map Value.int (own_R (own_cpf g (own_u ds) (2 * o) 0 (2 * n)) (2 * M))) (.int (0 : Int32))
theorem d50_0 : decode jdk_43_method_50_code 0 = .ok (.aload_n 0, 1) := by decide +kernel
theorem d50_1 : decode jdk_43_method_50_code 1 = .ok (.iload_n 1, 1) := by decide +kernel
theorem d50_2 : decode jdk_43_method_50_code 2 = .ok (.aload_n 2, 1) := by decide +kernel
theorem d50_3 : decode jdk_43_method_50_code 3 = .ok (.iload_n 3, 1) := by decide +kernel
theorem d50_4 : decode jdk_43_method_50_code 4 = .ok (.iload 4, 2) := by decide +kernel
theorem d50_6 : decode jdk_43_method_50_code 6 = .ok (.invokestatic 240, 3) := by decide +kernel
theorem pd__28__5b_BI_5b_BII_29_V : parseMethodDescriptor "([BI[BII)V" = some ⟨[(.array .byte), .int, (.array .byte), .int, .int], none⟩ := by decide +kernel
theorem d50_9 : decode jdk_43_method_50_code 9 = .ok (.return_, 1) := by decide +kernel
set_option maxRecDepth 65536 in
set_option maxHeartbeats 40000000 in
theorem rmlinf (l : Launch) (Z : State) (a0 : Array Value) (hw : ∀ d ∈ tables_1, d.before a0 Z = true) (ws : List Jvm.Cond) (a1 : Addr) (k : ClassId) (LL : Nat) (f : Nat → Int32) (ds : Nat → Int32) (a3 : Addr) (kb : ClassId) (M : Nat) (g : Nat → Int32) (o : Nat) (n : Nat) (h0 : Heap) (n0 : Nat) (Z0 : n0 ≤ h0.size) (V_a1 : Arv Z h0 a1 k .byte (Int32.ofNat (LL)) (List.map Value.int (own_R f LL)) (.int (0 : Int32))) (V_a3 : Arv Z h0 a3 kb .byte (Int32.ofNat (2 * M)) (List.map Value.int (own_R g (2 * M))) (.int (0 : Int32))) (g_a3 : n0 ≤ a3) (ne13 : a1 ≠ a3) (O0 : own_Old Z n0 h0) (hST : own_ST Z) (hf : ∀ j, j < n → f j = own_lo ds j) (hdl : ∀ j, j < n → ¬ (255 : Int32) < ds j) (hdc : ∀ j, own_ch (ds j)) (hnL : n ≤ LL) (hL : LL ≤ 128) (ho : o + n ≤ M) (hM : M ≤ 128) : own_Met l own_y50 jdk_43_method_50_code 5 none ws ⟨4, 0, 0, 60⟩ #[(.ref a1), (.int (0 : Int32)), (.ref a3), (.int (Int32.ofNat (o))), (.int (Int32.ofNat (n)))] Z h0 (Qlinf Z a1 k LL f ds a3 kb M g o n h0 n0) := by
  refine own_met (plainFor_of_name pn_java_lang_StringLatin1) (fun p e s m below meth c s₁ hx hby hml hrt hlk hZ hown hnm X0 e0 es0 => ?_)
  have N0 := Fr.nil n0
  rw [ef_RIRII_5 m a1 (0 : Int32) a3 (Int32.ofNat (o)) (Int32.ofNat (n))]
  have Kz := Keep.refl h0 [a3]
  refine own_gk (XS.aloadN X0.here hx rfl (hb hby d50_0) rfl rfl) ?_
  refine own_gk (XS.iloadN X0.here hx rfl (hb hby d50_1) rfl) ?_
  refine own_gk (XS.aloadN X0.here hx rfl (hb hby d50_2) rfl rfl) ?_
  refine own_gk (XS.iloadN X0.here hx rfl (hb hby d50_3) rfl) ?_
  refine own_gk (XS.iload X0.here hx rfl (hb hby d50_4) rfl) ?_
  show own_Fin _ _ _ _ (s₁.setTop (mkF m 6 #[rv a1, iv (0 : Int32), rv a3, iv (Int32.ofNat (o)), iv (Int32.ofNat (n))] [(.int (Int32.ofNat (n))), (.int (Int32.ofNat (o))), (.ref a3), (.int (0 : Int32)), (.ref a1)]))
  obtain ⟨_, T211, Lc211, X211, hQ211, st211⟩ := own_callS X0 hx hZ hown (own_h hw 245 rfl) (own_h hw 246 rfl) (own_h hw 170 rfl) (own_h hw 247 rfl) (by decide) (rmuinf l Z a0 hw [] a1 k LL f ds a3 kb M g o n h0 n0 Z0 V_a1 V_a3 g_a3 ne13 O0 hST hf hdl hdc hnL hL ho hM) (W := 0) (by decide) (by decide) (g := (mkF m 6 #[rv a1, iv (0 : Int32), rv a3, iv (Int32.ofNat (o)), iv (Int32.ofNat (n))] [(.int (Int32.ofNat (n))), (.int (Int32.ofNat (o))), (.ref a3), (.int (0 : Int32)), (.ref a1)])) rfl (by rw [hml]; rfl) (argsL := [(.ref a1), (.int (0 : Int32)), (.ref a3), (.int (Int32.ofNat (o))), (.int (Int32.ofNat (n)))]) (rest := []) (lenOf pd__28__5b_BI_5b_BII_29_V rfl) rfl (Nat.le_of_eq rfl) (hb hby d50_6) rfl e0 (by decide) (by decide)
  refine own_go st211 ?_
  obtain ⟨rfl, Nq211, K211, r211_0⟩ := hQ211
  have Od211 := O0.keep K211 (allS g_a3 all0)
  have V_a1_211 := V_a1.keep K211 (ninS ne13 nin0)
  have Z211 : n0 ≤ T211.heap.size := Nat.le_trans Z0 K211.1
  have Kt211 := Kz.trans K211 (allS (P := fun x => x ∈ _ ∨ _ ≤ x) (Or.inl (List.mem_of_getElem? (i := 0) rfl)) all0)
  have N211 := Fr.app N0 Nq211
  obtain ⟨fs212, hr212, hrun212, hended212, hW212, hsame212⟩ := X211.leave (v := none) (fun _ => rfl)
  refine own_done (X211.returnOut hx hrt (hb hby d50_9) hr212) hrun212 hended212 ⟨_, _, rfl, ?_, ⟨_, rfl⟩, hW212, hsame212.mono (by decide) (by decide)⟩
  show Qlinf Z a1 k LL f ds a3 kb M g o n h0 n0 _ T211.heap _
  exact ⟨rfl, N211, Kt211, r211_0⟩
def Qasl_0 (Z : State) (a1 : Addr) (h0 : Heap) (n0 : Nat) (v : Option Value) (h : Heap) (L : List Loc) : Prop := v = some (.int (1 : Int32)) ∧ Fr n0 L ∧ h = h0
theorem d22_0 : decode jdk_68_method_68_code 0 = .ok (.getstatic 18, 3) := by decide +kernel
theorem d22_3 : decode jdk_68_method_68_code 3 = .ok (.ifCond .eq 14, 3) := by decide +kernel
theorem d22_6 : decode jdk_68_method_68_code 6 = .ok (.aload_n 0, 1) := by decide +kernel
theorem d22_7 : decode jdk_68_method_68_code 7 = .ok (.getfield 22, 3) := by decide +kernel
theorem d22_10 : decode jdk_68_method_68_code 10 = .ok (.ifCond .ne 7, 3) := by decide +kernel
theorem d22_13 : decode jdk_68_method_68_code 13 = .ok (.iconst 1, 1) := by decide +kernel
theorem d22_14 : decode jdk_68_method_68_code 14 = .ok (.goto 4, 3) := by decide +kernel
theorem d22_18 : decode jdk_68_method_68_code 18 = .ok (.ireturn, 1) := by decide +kernel
set_option maxRecDepth 65536 in
set_option maxHeartbeats 40000000 in
theorem rmasl_0 (l : Launch) (Z : State) (a0 : Array Value) (hw : ∀ d ∈ tables_1, d.before a0 Z = true) (ws : List Jvm.Cond) (a1 : Addr) (h0 : Heap) (n0 : Nat) (Z0 : n0 ≤ h0.size) (F_coder_a1 : Fld Z h0 a1 "java/lang/AbstractStringBuilder" "coder" "B" (.int (0 : Int32))) (O0 : own_Old Z n0 h0) (hST : own_ST Z) : own_Met l own_y22 jdk_68_method_68_code 1 (some .boolean) ws ⟨0, 0, 0, 0⟩ #[(.ref a1)] Z h0 (Qasl_0 Z a1 h0 n0) := by
  refine own_met (plainFor_of_name pn_java_lang_AbstractStringBuilder) (fun p e s m below meth c s₁ hx hby hml hrt hlk hZ hown hnm X0 e0 es0 => ?_)
  have N0 := Fr.nil n0
  rw [ef_R_1 m a1]
  obtain ⟨ct, sv, hct, hsv, S__assertionsDisabled, S_HI_BYTE_SHIFT, S_LO_BYTE_SHIFT, S_COMPACT_STRINGS, S_SIOOBE_FORMATTER⟩ := id hST
  obtain ⟨T213, X213, e213, st213⟩ := getS2 X0 hx hZ hown (host := "") (Or.inl (own_h hw 54 rfl)) Via.refl e0 (S_COMPACT_STRINGS.ext O0.2) (g := (mkF m 0 #[rv a1] [])) rfl (hb hby d22_0)
  refine own_by st213 ?_
  refine own_gk (XS.ifNo X213.here hx rfl (hb hby d22_3) rfl ((if0 _ _).trans (feq (show ¬ (ct = (0 : Int32)) from hct)).1)) ?_
  refine own_gk (XS.aloadN X213.here hx rfl (hb hby d22_6) rfl rfl) ?_
  obtain ⟨T214, X214, e214, st214⟩ := getF X213 hx hZ hown (host := "") (Or.inl (own_h hw 57 rfl)) Via.refl e213 F_coder_a1 (g := (mkF m 7 #[rv a1] [(.ref a1)])) rfl rfl (hb hby d22_7)
  refine own_by st214 ?_
  refine own_gk (XS.ifNo X214.here hx rfl (hb hby d22_10) rfl ((if0 _ _).trans (teq (by decide : (0 : Int32) = (0 : Int32))).2)) ?_
  show own_Fin _ _ _ _ (T214.setTop (mkF m 13 #[rv a1] []))
  refine own_gk (XS.iconst X214.here hx rfl (hb hby d22_13)) ?_
  refine own_gk (XS.goto X214.here hx rfl (pc0 := 14) (pc' := 18) rfl (hb hby d22_14) (by decide) (by decide)) ?_
  obtain ⟨fs215, hr215, hrun215, hended215, hW215, hsame215⟩ := X214.leave (v := some (.int (1 : Int32))) (fun h => by rw [hrt] at h; cases h)
  refine own_done (retN X214 hx (t := .boolean) hrt (by simp) (hb hby d22_18) hr215) hrun215 hended215 ⟨_, _, rfl, ?_, ⟨_, rfl⟩, hW215, hsame215.mono (by decide) (by decide)⟩
  show Qasl_0 Z a1 h0 n0 _ T214.heap _
  rw [e214]
  exact ⟨rfl, N0, rfl⟩
def Qasl_1 (Z : State) (a1 : Addr) (h0 : Heap) (n0 : Nat) (v : Option Value) (h : Heap) (L : List Loc) : Prop := v = some (.int (0 : Int32)) ∧ Fr n0 L ∧ h = h0
theorem d22_17 : decode jdk_68_method_68_code 17 = .ok (.iconst 0, 1) := by decide +kernel
set_option maxRecDepth 65536 in
set_option maxHeartbeats 40000000 in
theorem rmasl_1 (l : Launch) (Z : State) (a0 : Array Value) (hw : ∀ d ∈ tables_1, d.before a0 Z = true) (ws : List Jvm.Cond) (a1 : Addr) (h0 : Heap) (n0 : Nat) (Z0 : n0 ≤ h0.size) (F_coder_a1 : Fld Z h0 a1 "java/lang/AbstractStringBuilder" "coder" "B" (.int (1 : Int32))) (O0 : own_Old Z n0 h0) (hST : own_ST Z) : own_Met l own_y22 jdk_68_method_68_code 1 (some .boolean) ws ⟨0, 0, 0, 0⟩ #[(.ref a1)] Z h0 (Qasl_1 Z a1 h0 n0) := by
  refine own_met (plainFor_of_name pn_java_lang_AbstractStringBuilder) (fun p e s m below meth c s₁ hx hby hml hrt hlk hZ hown hnm X0 e0 es0 => ?_)
  have N0 := Fr.nil n0
  rw [ef_R_1 m a1]
  obtain ⟨ct, sv, hct, hsv, S__assertionsDisabled, S_HI_BYTE_SHIFT, S_LO_BYTE_SHIFT, S_COMPACT_STRINGS, S_SIOOBE_FORMATTER⟩ := id hST
  obtain ⟨T216, X216, e216, st216⟩ := getS2 X0 hx hZ hown (host := "") (Or.inl (own_h hw 54 rfl)) Via.refl e0 (S_COMPACT_STRINGS.ext O0.2) (g := (mkF m 0 #[rv a1] [])) rfl (hb hby d22_0)
  refine own_by st216 ?_
  refine own_gk (XS.ifNo X216.here hx rfl (hb hby d22_3) rfl ((if0 _ _).trans (feq (show ¬ (ct = (0 : Int32)) from hct)).1)) ?_
  refine own_gk (XS.aloadN X216.here hx rfl (hb hby d22_6) rfl rfl) ?_
  obtain ⟨T217, X217, e217, st217⟩ := getF X216 hx hZ hown (host := "") (Or.inl (own_h hw 57 rfl)) Via.refl e216 F_coder_a1 (g := (mkF m 7 #[rv a1] [(.ref a1)])) rfl rfl (hb hby d22_7)
  refine own_by st217 ?_
  refine own_gk (XS.ifYes X217.here hx rfl (pc0 := 10) (pc' := 17) rfl (hb hby d22_10) rfl ((if0 _ _).trans (feq (by decide : ¬ ((1 : Int32) = (0 : Int32)))).2) (by decide) (by decide)) ?_
  show own_Fin _ _ _ _ (T217.setTop (mkF m 17 #[rv a1] []))
  refine own_gk (XS.iconst X217.here hx rfl (hb hby d22_17)) ?_
  obtain ⟨fs218, hr218, hrun218, hended218, hW218, hsame218⟩ := X217.leave (v := some (.int (0 : Int32))) (fun h => by rw [hrt] at h; cases h)
  refine own_done (retN X217 hx (t := .boolean) hrt (by simp) (hb hby d22_18) hr218) hrun218 hended218 ⟨_, _, rfl, ?_, ⟨_, rfl⟩, hW218, hsame218.mono (by decide) (by decide)⟩
  show Qasl_1 Z a1 h0 n0 _ T217.heap _
  rw [e217]
  exact ⟨rfl, N0, rfl⟩
def Qgv (Z : State) (a1 : Addr) (va : Addr) (h0 : Heap) (n0 : Nat) (v : Option Value) (h : Heap) (L : List Loc) : Prop := v = some (.ref va) ∧ Fr n0 L ∧ h = h0
theorem d19_0 : decode jdk_68_method_64_code 0 = .ok (.aload_n 0, 1) := by decide +kernel
theorem d19_1 : decode jdk_68_method_64_code 1 = .ok (.getfield 15, 3) := by decide +kernel
theorem d19_4 : decode jdk_68_method_64_code 4 = .ok (.areturn, 1) := by decide +kernel
set_option maxRecDepth 65536 in
set_option maxHeartbeats 40000000 in
theorem rmgv (l : Launch) (Z : State) (a0 : Array Value) (hw : ∀ d ∈ tables_1, d.before a0 Z = true) (ws : List Jvm.Cond) (a1 : Addr) (va : Addr) (h0 : Heap) (n0 : Nat) (Z0 : n0 ≤ h0.size) (F_value_a1 : Fld Z h0 a1 "java/lang/AbstractStringBuilder" "value" "[B" (.ref va)) : own_Met l own_y19 jdk_68_method_64_code 1 (some (.array .byte)) ws ⟨0, 0, 0, 0⟩ #[(.ref a1)] Z h0 (Qgv Z a1 va h0 n0) := by
  refine own_met (plainFor_of_name pn_java_lang_AbstractStringBuilder) (fun p e s m below meth c s₁ hx hby hml hrt hlk hZ hown hnm X0 e0 es0 => ?_)
  have N0 := Fr.nil n0
  rw [ef_R_1 m a1]
  refine own_gk (XS.aloadN X0.here hx rfl (hb hby d19_0) rfl rfl) ?_
  obtain ⟨T219, X219, e219, st219⟩ := getF X0 hx hZ hown (host := "") (Or.inl (own_h hw 55 rfl)) Via.refl e0 F_value_a1 (g := (mkF m 1 #[rv a1] [(.ref a1)])) rfl rfl (hb hby d19_1)
  refine own_by st219 ?_
  obtain ⟨fs220, hr220, hrun220, hended220, hW220, hsame220⟩ := X219.leave (v := some (.ref va)) (fun h => by rw [hrt] at h; cases h)
  refine own_done (retOut X219 hx hrt rfl (Or.inr (Or.inr (Or.inr (Or.inr ⟨rfl, rfl, rfl⟩)))) (hb hby d19_4) hr220) hrun220 hended220 ⟨_, _, rfl, ?_, ⟨_, rfl⟩, hW220, hsame220.mono (by decide) (by decide)⟩
  show Qgv Z a1 va h0 n0 _ T219.heap _
  rw [e219]
  exact ⟨rfl, N0, rfl⟩
def Qal (Z : State) (a1 : Addr) (cnt : Nat) (h0 : Heap) (n0 : Nat) (v : Option Value) (h : Heap) (L : List Loc) : Prop := v = some (.int (Int32.ofNat (cnt))) ∧ Fr n0 L ∧ h = h0
theorem d21_0 : decode jdk_68_method_6_code 0 = .ok (.aload_n 0, 1) := by decide +kernel
theorem d21_1 : decode jdk_68_method_6_code 1 = .ok (.getfield 79, 3) := by decide +kernel
theorem d21_4 : decode jdk_68_method_6_code 4 = .ok (.ireturn, 1) := by decide +kernel
set_option maxRecDepth 65536 in
set_option maxHeartbeats 40000000 in
theorem rmal (l : Launch) (Z : State) (a0 : Array Value) (hw : ∀ d ∈ tables_1, d.before a0 Z = true) (ws : List Jvm.Cond) (a1 : Addr) (cnt : Nat) (h0 : Heap) (n0 : Nat) (Z0 : n0 ≤ h0.size) (F_count_a1 : Fld Z h0 a1 "java/lang/AbstractStringBuilder" "count" "I" (.int (Int32.ofNat (cnt)))) : own_Met l own_y21 jdk_68_method_6_code 1 (some .int) ws ⟨0, 0, 0, 0⟩ #[(.ref a1)] Z h0 (Qal Z a1 cnt h0 n0) := by
  refine own_met (plainFor_of_name pn_java_lang_AbstractStringBuilder) (fun p e s m below meth c s₁ hx hby hml hrt hlk hZ hown hnm X0 e0 es0 => ?_)
  have N0 := Fr.nil n0
  rw [ef_R_1 m a1]
  refine own_gk (XS.aloadN X0.here hx rfl (hb hby d21_0) rfl rfl) ?_
  obtain ⟨T221, X221, e221, st221⟩ := getF X0 hx hZ hown (host := "") (Or.inl (own_h hw 71 rfl)) Via.refl e0 F_count_a1 (g := (mkF m 1 #[rv a1] [(.ref a1)])) rfl rfl (hb hby d21_1)
  refine own_by st221 ?_
  obtain ⟨fs222, hr222, hrun222, hended222, hW222, hsame222⟩ := X221.leave (v := some (.int (Int32.ofNat (cnt)))) (fun h => by rw [hrt] at h; cases h)
  refine own_done (own_retI X221 hx hrt (hb hby d21_4) hr222) hrun222 hended222 ⟨_, _, rfl, ?_, ⟨_, rfl⟩, hW222, hsame222.mono (by decide) (by decide)⟩
  show Qal Z a1 cnt h0 n0 _ T221.heap _
  rw [e221]
  exact ⟨rfl, N0, rfl⟩
def Qsl (Z : State) (a1 : Addr) (cnt : Nat) (h0 : Heap) (n0 : Nat) (v : Option Value) (h : Heap) (L : List Loc) : Prop := v = some (.int (Int32.ofNat (cnt))) ∧ Fr n0 L ∧ h = h0
theorem d20_0 : decode jdk_67_method_93_code 0 = .ok (.aload_n 0, 1) := by decide +kernel
theorem d20_1 : decode jdk_67_method_93_code 1 = .ok (.invokespecial 343, 3) := by decide +kernel
theorem pd__28__29_I : parseMethodDescriptor "()I" = some ⟨[], some .int⟩ := by decide +kernel
theorem d20_4 : decode jdk_67_method_93_code 4 = .ok (.ireturn, 1) := by decide +kernel
set_option maxRecDepth 65536 in
set_option maxHeartbeats 40000000 in
theorem rmsl (l : Launch) (Z : State) (a0 : Array Value) (hw : ∀ d ∈ tables_1, d.before a0 Z = true) (ws : List Jvm.Cond) (a1 : Addr) (cnt : Nat) (h0 : Heap) (n0 : Nat) (Z0 : n0 ≤ h0.size) (E_a1 : Exa Z h0 a1 "java/lang/StringBuilder") (F_count_a1 : Fld Z h0 a1 "java/lang/AbstractStringBuilder" "count" "I" (.int (Int32.ofNat (cnt)))) : own_Met l own_y20 jdk_67_method_93_code 1 (some .int) ws ⟨1, 0, 0, 12⟩ #[(.ref a1)] Z h0 (Qsl Z a1 cnt h0 n0) := by
  refine own_met (plainFor_of_name pn_java_lang_StringBuilder) (fun p e s m below meth c s₁ hx hby hml hrt hlk hZ hown hnm X0 e0 es0 => ?_)
  have N0 := Fr.nil n0
  rw [ef_R_1 m a1]
  refine own_gk (XS.aloadN X0.here hx rfl (hb hby d20_0) rfl rfl) ?_
  obtain ⟨cq223, kq223, q223a, q223b, q223c⟩ := isOf hZ e0 E_a1
  obtain ⟨_, _, ⟨T223, L223, k223, n223⟩, -, X223, ⟨Lc223, hQ223, l223, y223, z223⟩, st223⟩ := own_upBack X0 hx (x := own_y21) hown (mvT hZ (own_h hw 121 rfl)) (mvT hZ (own_h hw 117 rfl)) (mvT hZ (own_h hw 67 rfl)) (mvT hZ (own_h hw 122 rfl)) (mvT hZ (own_h hw 76 rfl)) rfl (by decide) (by decide) q223a q223c (backOf (W := 0) (rmal l Z a0 hw [] a1 cnt h0 n0 Z0 F_count_a1) hZ (own_h hw 122 rfl) (own_h hw 51 rfl) (by decide) (by decide)) (g := (mkF m 1 #[rv a1] [(.ref a1)])) rfl (by rw [hml]; rfl) (Steps.refl _) (argsL := []) (rest := []) (lenOf pd__28__29_I rfl) rfl (by show 2 * 0 + _ ≤ _; exact Nat.le_of_eq rfl) (hb hby d20_1) (fun _ hv => ⟨rfl, e0, (by decide : 0 + 0 ≤ _), (by decide : 0 + 0 ≤ _)⟩)
  dsimp only [Pt.U, Pt.locs, Pt.cells, Pt.slots] at X223 l223 y223 z223 st223 hQ223
  subst l223 y223 z223
  obtain ⟨rfl, Nq223, e223⟩ := hQ223
  refine own_go st223 ?_
  have N223 := Fr.app N0 Nq223
  obtain ⟨fs224, hr224, hrun224, hended224, hW224, hsame224⟩ := X223.leave (v := some (.int (Int32.ofNat (cnt)))) (fun h => by rw [hrt] at h; cases h)
  refine own_done (own_retI X223 hx hrt (hb hby d20_4) hr224) hrun224 hended224 ⟨_, _, rfl, ?_, ⟨_, rfl⟩, hW224, hsame224.mono (by decide) (by decide)⟩
  show Qsl Z a1 cnt h0 n0 _ T223.heap _
  rw [e223]
  exact ⟨rfl, N223, rfl⟩
theorem ef_R_2 (m : MethodId) (x0 : Addr) : entryFrame m #[(.ref x0)] 2 = mkF m 0 #[.val (.ref x0), .unset] [] := by first | (simp [entryFrame, mkF, argsToLocals, Value.category]; done) | rfl
def Qinf0 (Z : State) (a1 : Addr) (va : Addr) (kv : ClassId) (cc : Nat) (cnt : Nat) (f : Nat → Int32) (cs : Nat → Int32) (h0 : Heap) (n0 : Nat) (v : Option Value) (h : Heap) (L : List Loc) : Prop := ∃ (vb : Addr) (kb : ClassId), v = none ∧ Fr n0 L ∧ Keep h0 h [a1] ∧ n0 ≤ vb ∧ h0.size ≤ vb ∧ Exa Z h a1 "java/lang/StringBuilder" ∧ Fld Z h a1 "java/lang/AbstractStringBuilder" "value" "[B" (.ref vb) ∧ Fld Z h a1 "java/lang/AbstractStringBuilder" "count" "I" (.int (Int32.ofNat (cnt))) ∧ Fld Z h a1 "java/lang/AbstractStringBuilder" "coder" "B" (.int (1 : Int32)) ∧ Fld Z h a1 "java/lang/AbstractStringBuilder" "maybeLatin1" "Z" (.int (0 : Int32)) ∧ Arv Z h vb kb .byte (Int32.ofNat (2 * cc)) (List.map Value.int (own_R (own_cpf (fun _ => (0 : Int32)) (own_u cs) (2 * 0) 0 (2 * cnt)) (2 * cc))) (.int (0 : Int32))
theorem d49_0 : decode jdk_68_method_11_code 0 = .ok (.aload_n 0, 1) := by decide +kernel
theorem d49_1 : decode jdk_68_method_11_code 1 = .ok (.invokevirtual 83, 3) := by decide +kernel
theorem d49_4 : decode jdk_68_method_11_code 4 = .ok (.ifCond .ne 4, 3) := by decide +kernel
theorem d49_8 : decode jdk_68_method_11_code 8 = .ok (.aload_n 0, 1) := by decide +kernel
theorem d49_9 : decode jdk_68_method_11_code 9 = .ok (.getfield 15, 3) := by decide +kernel
theorem d49_12 : decode jdk_68_method_11_code 12 = .ok (.arraylength, 1) := by decide +kernel
theorem d49_13 : decode jdk_68_method_11_code 13 = .ok (.invokestatic 26, 3) := by decide +kernel
theorem d49_16 : decode jdk_68_method_11_code 16 = .ok (.astore_n 1, 1) := by decide +kernel
theorem d49_17 : decode jdk_68_method_11_code 17 = .ok (.aload_n 0, 1) := by decide +kernel
theorem d49_18 : decode jdk_68_method_11_code 18 = .ok (.getfield 15, 3) := by decide +kernel
theorem d49_21 : decode jdk_68_method_11_code 21 = .ok (.iconst 0, 1) := by decide +kernel
theorem d49_22 : decode jdk_68_method_11_code 22 = .ok (.aload_n 1, 1) := by decide +kernel
theorem d49_23 : decode jdk_68_method_11_code 23 = .ok (.iconst 0, 1) := by decide +kernel
theorem d49_24 : decode jdk_68_method_11_code 24 = .ok (.aload_n 0, 1) := by decide +kernel
theorem d49_25 : decode jdk_68_method_11_code 25 = .ok (.getfield 79, 3) := by decide +kernel
theorem d49_28 : decode jdk_68_method_11_code 28 = .ok (.invokestatic 125, 3) := by decide +kernel
theorem d49_31 : decode jdk_68_method_11_code 31 = .ok (.aload_n 0, 1) := by decide +kernel
theorem d49_32 : decode jdk_68_method_11_code 32 = .ok (.aload_n 1, 1) := by decide +kernel
theorem d49_33 : decode jdk_68_method_11_code 33 = .ok (.putfield 15, 3) := by decide +kernel
theorem d49_36 : decode jdk_68_method_11_code 36 = .ok (.aload_n 0, 1) := by decide +kernel
theorem d49_37 : decode jdk_68_method_11_code 37 = .ok (.iconst 1, 1) := by decide +kernel
theorem d49_38 : decode jdk_68_method_11_code 38 = .ok (.putfield 22, 3) := by decide +kernel
theorem d49_41 : decode jdk_68_method_11_code 41 = .ok (.return_, 1) := by decide +kernel
set_option maxRecDepth 65536 in
set_option maxHeartbeats 40000000 in
theorem rminf0 (l : Launch) (Z : State) (a0 : Array Value) (hw : ∀ d ∈ tables_1, d.before a0 Z = true) (ws : List Jvm.Cond) (a1 : Addr) (va : Addr) (kv : ClassId) (cc : Nat) (cnt : Nat) (f : Nat → Int32) (cs : Nat → Int32) (h0 : Heap) (n0 : Nat) (Z0 : n0 ≤ h0.size) (E_a1 : Exa Z h0 a1 "java/lang/StringBuilder") (F_value_a1 : Fld Z h0 a1 "java/lang/AbstractStringBuilder" "value" "[B" (.ref va)) (F_count_a1 : Fld Z h0 a1 "java/lang/AbstractStringBuilder" "count" "I" (.int (Int32.ofNat (cnt)))) (F_coder_a1 : Fld Z h0 a1 "java/lang/AbstractStringBuilder" "coder" "B" (.int (0 : Int32))) (F_maybeLatin1_a1 : Fld Z h0 a1 "java/lang/AbstractStringBuilder" "maybeLatin1" "Z" (.int (0 : Int32))) (V_va : Arv Z h0 va kv .byte (Int32.ofNat (cc)) (List.map Value.int (own_R f cc)) (.int (0 : Int32))) (g_a1 : n0 ≤ a1) (g_va : n0 ≤ va) (O0 : own_Old Z n0 h0) (hST : own_ST Z) (hf : ∀ j, j < cnt → f j = own_lo cs j) (hcl : ∀ j, j < cnt → ¬ (255 : Int32) < cs j) (hch : ∀ j, own_ch (cs j)) (hcn : cnt ≤ cc) (hc2 : cc ≤ 64) : own_Met l own_y49 jdk_68_method_11_code 2 none ws ⟨5, 1, 128, 76⟩ #[(.ref a1)] Z h0 (Qinf0 Z a1 va kv cc cnt f cs h0 n0) := by
  refine own_met (plainFor_of_name pn_java_lang_AbstractStringBuilder) (fun p e s m below meth c s₁ hx hby hml hrt hlk hZ hown hnm X0 e0 es0 => ?_)
  have N0 := Fr.nil n0
  rw [ef_R_2 m a1]
  have Kz := Keep.refl h0 [a1]
  refine own_gk (XS.aloadN X0.here hx rfl (hb hby d49_0) rfl rfl) ?_
  obtain ⟨_, T225, Lc225, X225, hQ225, st225⟩ := own_callV X0 hx hZ E_a1 hown (own_h hw 240 rfl) (own_h hw 124 rfl) (notFace_of_selects (args := #[]) (mvT hZ (own_h hw 126 rfl))) (own_h hw 126 rfl) (own_h hw 125 rfl) (own_h hw 51 rfl) (own_h hw 127 rfl) (by decide) (rmasl_0 l Z a0 hw [] a1 h0 n0 Z0 F_coder_a1 O0 hST) (W := 0) (by decide) (by decide) (g := (mkF m 1 #[rv a1, .unset] [(.ref a1)])) rfl (by rw [hml]; rfl) (argsL := []) (rest := []) (lenOf pd__28__29_Z rfl) rfl (Nat.le_of_eq rfl) (hb hby d49_1) rfl e0 (by decide) (by decide)
  obtain ⟨rfl, Nq225, e225⟩ := hQ225
  refine own_go st225 ?_
  have N225 := Fr.app N0 Nq225
  refine own_gk (XS.ifYes X225.here hx rfl (pc0 := 4) (pc' := 8) rfl (hb hby d49_4) rfl ((if0 _ _).trans (feq (by decide : ¬ ((1 : Int32) = (0 : Int32)))).2) (by decide) (by decide)) ?_
  refine own_gk (XS.aloadN X225.here hx rfl (hb hby d49_8) rfl rfl) ?_
  obtain ⟨T226, X226, e226, st226⟩ := getF X225 hx hZ hown (host := "") (Or.inl (own_h hw 55 rfl)) Via.refl e225 F_value_a1 (g := (mkF m 9 #[rv a1, .unset] [(.ref a1)])) rfl rfl (hb hby d49_9)
  refine own_by st226 ?_
  show own_Fin _ _ _ _ (T226.setTop (mkF m 12 #[rv a1, .unset] [(.ref va)]))
  obtain ⟨cl227, Ar227, qa227, Sa227, Na227, Ha227, Ga227⟩ := id V_va
  refine own_by (X226.arraylength hx (by rw [e226]; exact Ar227.1) (State.isArrayOf_alike hZ.alike Ar227.2.1) (g := (mkF m 12 #[rv a1, .unset] [(.ref va)])) rfl rfl (hb hby d49_12)) ?_
  rw [len_of Sa227 Na227]
  obtain ⟨_, T228, Lc228, X228, hQ228, st228⟩ := own_callS X226 hx hZ hown (own_h hw 241 rfl) (own_h hw 220 rfl) (own_h hw 170 rfl) (own_h hw 221 rfl) (by decide) (rmnf l Z a0 hw [] cc h0 n0 Z0 hc2) (W := 0) (by decide) (by decide) (g := (mkF m 13 #[rv a1, .unset] [(.int (Int32.ofNat (cc)))])) rfl (by rw [hml]; rfl) (argsL := [(.int (Int32.ofNat (cc)))]) (rest := []) (lenOf pd__28_I_29__5b_B rfl) rfl (Nat.le_of_eq rfl) (hb hby d49_13) rfl e226 (by decide) (by decide)
  refine own_go st228 ?_
  obtain ⟨b_228, kb_228, rfl, Nq228, K228, g_b_228, sb_b_228, r228_0⟩ := hQ228
  have ne_a1_b_228 : a1 ≠ b_228 := Nat.ne_of_lt (Nat.lt_of_lt_of_le E_a1.lt sb_b_228)
  have ne_va_b_228 : va ≠ b_228 := Nat.ne_of_lt (Nat.lt_of_lt_of_le V_va.lt sb_b_228)
  have sz_b_228 : h0.size ≤ b_228 := Nat.le_trans Kz.1 sb_b_228
  have Od228 := O0.keep K228 all0
  have E_a1_228 := E_a1.keep K228
  have F_value_a1_228 := F_value_a1.keep K228 nin0
  have F_count_a1_228 := F_count_a1.keep K228 nin0
  have F_coder_a1_228 := F_coder_a1.keep K228 nin0
  have F_maybeLatin1_a1_228 := F_maybeLatin1_a1.keep K228 nin0
  have V_va_228 := V_va.keep K228 nin0
  have Z228 : n0 ≤ T228.heap.size := Nat.le_trans Z0 K228.1
  have Kt228 := Kz.trans K228 all0
  have N228 := Fr.app N225 Nq228
  refine own_gk (XS.astoreN X228.here hx rfl (hb hby d49_16) rfl rfl rfl) ?_
  refine own_gk (XS.aloadN X228.here hx rfl (hb hby d49_17) rfl rfl) ?_
  obtain ⟨T229, X229, e229, st229⟩ := getF X228 hx hZ hown (host := "") (Or.inl (own_h hw 55 rfl)) Via.refl rfl F_value_a1_228 (g := (mkF m 18 #[rv a1, rv b_228] [(.ref a1)])) rfl rfl (hb hby d49_18)
  refine own_by st229 ?_
  show own_Fin _ _ _ _ (T229.setTop (mkF m 21 #[rv a1, rv b_228] [(.ref va)]))
  refine own_gk (XS.iconst X229.here hx rfl (hb hby d49_21)) ?_
  refine own_gk (XS.aloadN X229.here hx rfl (hb hby d49_22) rfl rfl) ?_
  refine own_gk (XS.iconst X229.here hx rfl (hb hby d49_23)) ?_
  refine own_gk (XS.aloadN X229.here hx rfl (hb hby d49_24) rfl rfl) ?_
  obtain ⟨T230, X230, e230, st230⟩ := getF X229 hx hZ hown (host := "") (Or.inl (own_h hw 71 rfl)) Via.refl e229 F_count_a1_228 (g := (mkF m 25 #[rv a1, rv b_228] [(.ref a1), (.int (0 : Int32)), (.ref b_228), (.int (0 : Int32)), (.ref va)])) rfl rfl (hb hby d49_25)
  refine own_by st230 ?_
  show own_Fin _ _ _ _ (T230.setTop (mkF m 28 #[rv a1, rv b_228] [(.int (Int32.ofNat (cnt))), (.int (0 : Int32)), (.ref b_228), (.int (0 : Int32)), (.ref va)]))
  obtain ⟨_, T231, Lc231, X231, hQ231, st231⟩ := own_callS X230 hx hZ hown (own_h hw 242 rfl) (own_h hw 243 rfl) (own_h hw 157 rfl) (own_h hw 244 rfl) (by decide) (rmlinf l Z a0 hw [] va kv cc f cs b_228 kb_228 cc (fun _ => (0 : Int32)) 0 cnt T228.heap n0 Z228 V_va_228 r228_0 g_b_228 ne_va_b_228 Od228 hST hf hcl hch hcn (by omega) (by omega) (by omega)) (W := 0) (by decide) (by decide) (g := (mkF m 28 #[rv a1, rv b_228] [(.int (Int32.ofNat (cnt))), (.int (0 : Int32)), (.ref b_228), (.int (0 : Int32)), (.ref va)])) rfl (by rw [hml]; rfl) (argsL := [(.ref va), (.int (0 : Int32)), (.ref b_228), (.int (0 : Int32)), (.int (Int32.ofNat (cnt)))]) (rest := []) (lenOf pd__28__5b_BI_5b_BII_29_V rfl) rfl (Nat.le_of_eq rfl) (hb hby d49_28) rfl e230 (by decide) (by decide)
  refine own_go st231 ?_
  obtain ⟨rfl, Nq231, K231, r231_0⟩ := hQ231
  have Od231 := Od228.keep K231 (allS g_b_228 all0)
  have E_a1_231 := E_a1_228.keep K231
  have F_value_a1_231 := F_value_a1_228.keep K231 (ninS ne_a1_b_228 nin0)
  have F_count_a1_231 := F_count_a1_228.keep K231 (ninS ne_a1_b_228 nin0)
  have F_coder_a1_231 := F_coder_a1_228.keep K231 (ninS ne_a1_b_228 nin0)
  have F_maybeLatin1_a1_231 := F_maybeLatin1_a1_228.keep K231 (ninS ne_a1_b_228 nin0)
  have V_va_231 := V_va_228.keep K231 (ninS ne_va_b_228 nin0)
  have Z231 : n0 ≤ T231.heap.size := Nat.le_trans Z228 K231.1
  have Kt231 := Kt228.trans K231 (allS (P := fun x => x ∈ _ ∨ _ ≤ x) (Or.inr sz_b_228) all0)
  have N231 := Fr.app N228 Nq231
  refine own_gk (XS.aloadN X231.here hx rfl (hb hby d49_31) rfl rfl) ?_
  refine own_gk (XS.aloadN X231.here hx rfl (hb hby d49_32) rfl rfl) ?_
  obtain ⟨T232, h232, X232, e232, W232, st232⟩ := putF X231 hx hZ hown (host := "") (Or.inl (own_h hw 55 rfl)) Via.refl rfl F_value_a1_231 E_a1_231 (Or.inl (own_h hw 56 rfl)) (own_h hw 42 rfl) (ty := (.array .byte)) (by decide) rfl rfl (g := (mkF m 33 #[rv a1, rv b_228] [(.ref b_228), (.ref a1)])) rfl rfl (hb hby d49_33)
  refine own_by st232 ?_
  have F_value_a1_232 := F_value_a1_231.same W232
  have Od232 := Od231.wr W232 g_a1
  have E_a1_232 := E_a1_231.wr W232
  have F_count_a1_232 := F_count_a1_231.other W232 (Or.inr (slot_ne (Or.inl (own_h hw 72 rfl)) (Or.inl (own_h hw 56 rfl)) (by decide) (t := .int) (t' := (.array .byte)) (by decide) (by decide)))
  have F_coder_a1_232 := F_coder_a1_231.other W232 (Or.inr (slot_ne (Or.inl (own_h hw 58 rfl)) (Or.inl (own_h hw 56 rfl)) (by decide) (t := .byte) (t' := (.array .byte)) (by decide) (by decide)))
  have F_maybeLatin1_a1_232 := F_maybeLatin1_a1_231.other W232 (Or.inr (slot_ne (Or.inl (own_h hw 262 rfl)) (Or.inl (own_h hw 56 rfl)) (by decide) (t := .boolean) (t' := (.array .byte)) (by decide) (by decide)))
  have V_va_232 := V_va_231.other W232 (Ne.symm (Exa.neArv E_a1_231 V_va_231 (own_h hw 42 rfl)))
  have r231_0_232 := r231_0.other W232 (Ne.symm ne_a1_b_228)
  have N232 := Fr.snoc X232 N231 g_a1
  have Z232 : n0 ≤ h232.size := Nat.le_trans Z231 (Keep.of_wr W232).1
  have K232 := Kt231.wr W232 (Or.inl (List.mem_of_getElem? (i := 0) rfl))
  refine own_gk (XS.aloadN X232.here hx rfl (hb hby d49_36) rfl rfl) ?_
  show own_Fin _ _ _ _ (T232.setTop (mkF m 37 #[rv a1, rv b_228] [(.ref a1)]))
  refine own_gk (XS.iconst X232.here hx rfl (hb hby d49_37)) ?_
  obtain ⟨T233, h233, X233, e233, W233, st233⟩ := putFN X232 hx hZ hown (own_h hw 57 rfl) Via.refl e232 F_coder_a1_232 E_a1_232 (Or.inl (own_h hw 58 rfl)) (own_h hw 42 rfl) (ty := .byte) (v' := (.int (nar .byte (1 : Int32)))) (by decide) rfl (fits_nar_byte _) (g := (mkF m 38 #[rv a1, rv b_228] [(.int (1 : Int32)), (.ref a1)])) rfl rfl (hb hby d49_38)
  refine own_by st233 ?_
  have F_coder_a1_233 := F_coder_a1_232.same W233
  have Od233 := Od232.wr W233 g_a1
  have E_a1_233 := E_a1_232.wr W233
  have F_value_a1_233 := F_value_a1_232.other W233 (Or.inr (slot_ne (Or.inl (own_h hw 56 rfl)) (Or.inl (own_h hw 58 rfl)) (by decide) (t := (.array .byte)) (t' := .byte) (by decide) (by decide)))
  have F_count_a1_233 := F_count_a1_232.other W233 (Or.inr (slot_ne (Or.inl (own_h hw 72 rfl)) (Or.inl (own_h hw 58 rfl)) (by decide) (t := .int) (t' := .byte) (by decide) (by decide)))
  have F_maybeLatin1_a1_233 := F_maybeLatin1_a1_232.other W233 (Or.inr (slot_ne (Or.inl (own_h hw 262 rfl)) (Or.inl (own_h hw 58 rfl)) (by decide) (t := .boolean) (t' := .byte) (by decide) (by decide)))
  have V_va_233 := V_va_232.other W233 (Ne.symm (Exa.neArv E_a1_232 V_va_232 (own_h hw 42 rfl)))
  have r231_0_233 := r231_0_232.other W233 (Ne.symm ne_a1_b_228)
  have N233 := Fr.snoc X233 N232 g_a1
  have Z233 : n0 ≤ h233.size := Nat.le_trans Z232 (Keep.of_wr W233).1
  have K233 := K232.wr W233 (Or.inl (List.mem_of_getElem? (i := 0) rfl))
  obtain ⟨fs234, hr234, hrun234, hended234, hW234, hsame234⟩ := X233.leave (v := none) (fun _ => rfl)
  refine own_done (X233.returnOut hx hrt (hb hby d49_41) hr234) hrun234 hended234 ⟨_, _, rfl, ?_, ⟨_, rfl⟩, hW234, hsame234.mono (by decide) (by decide)⟩
  show Qinf0 Z a1 va kv cc cnt f cs h0 n0 _ T233.heap _
  rw [e233]
  exact ⟨b_228, kb_228, rfl, N233, K233, g_b_228, sz_b_228, E_a1_233, F_value_a1_233, F_count_a1_233, F_coder_a1_233, F_maybeLatin1_a1_233, r231_0_233⟩
def Qinf1 (Z : State) (a1 : Addr) (h0 : Heap) (n0 : Nat) (v : Option Value) (h : Heap) (L : List Loc) : Prop := v = none ∧ Fr n0 L ∧ h = h0
theorem d49_7 : decode jdk_68_method_11_code 7 = .ok (.return_, 1) := by decide +kernel
set_option maxRecDepth 65536 in
set_option maxHeartbeats 40000000 in
theorem rminf1 (l : Launch) (Z : State) (a0 : Array Value) (hw : ∀ d ∈ tables_1, d.before a0 Z = true) (ws : List Jvm.Cond) (a1 : Addr) (h0 : Heap) (n0 : Nat) (Z0 : n0 ≤ h0.size) (E_a1 : Exa Z h0 a1 "java/lang/StringBuilder") (F_coder_a1 : Fld Z h0 a1 "java/lang/AbstractStringBuilder" "coder" "B" (.int (1 : Int32))) (O0 : own_Old Z n0 h0) (hST : own_ST Z) : own_Met l own_y49 jdk_68_method_11_code 2 none ws ⟨1, 0, 0, 12⟩ #[(.ref a1)] Z h0 (Qinf1 Z a1 h0 n0) := by
  refine own_met (plainFor_of_name pn_java_lang_AbstractStringBuilder) (fun p e s m below meth c s₁ hx hby hml hrt hlk hZ hown hnm X0 e0 es0 => ?_)
  have N0 := Fr.nil n0
  rw [ef_R_2 m a1]
  refine own_gk (XS.aloadN X0.here hx rfl (hb hby d49_0) rfl rfl) ?_
  obtain ⟨_, T235, Lc235, X235, hQ235, st235⟩ := own_callV X0 hx hZ E_a1 hown (own_h hw 240 rfl) (own_h hw 124 rfl) (notFace_of_selects (args := #[]) (mvT hZ (own_h hw 126 rfl))) (own_h hw 126 rfl) (own_h hw 125 rfl) (own_h hw 51 rfl) (own_h hw 127 rfl) (by decide) (rmasl_1 l Z a0 hw [] a1 h0 n0 Z0 F_coder_a1 O0 hST) (W := 0) (by decide) (by decide) (g := (mkF m 1 #[rv a1, .unset] [(.ref a1)])) rfl (by rw [hml]; rfl) (argsL := []) (rest := []) (lenOf pd__28__29_Z rfl) rfl (Nat.le_of_eq rfl) (hb hby d49_1) rfl e0 (by decide) (by decide)
  obtain ⟨rfl, Nq235, e235⟩ := hQ235
  refine own_go st235 ?_
  have N235 := Fr.app N0 Nq235
  refine own_gk (XS.ifNo X235.here hx rfl (hb hby d49_4) rfl ((if0 _ _).trans (teq (by decide : (0 : Int32) = (0 : Int32))).2)) ?_
  obtain ⟨fs236, hr236, hrun236, hended236, hW236, hsame236⟩ := X235.leave (v := none) (fun _ => rfl)
  refine own_done (X235.returnOut hx hrt (hb hby d49_7) hr236) hrun236 hended236 ⟨_, _, rfl, ?_, ⟨_, rfl⟩, hW236, hsame236.mono (by decide) (by decide)⟩
  show Qinf1 Z a1 h0 n0 _ T235.heap _
  rw [e235]
  exact ⟨rfl, N235, rfl⟩
theorem ef_RR_2 (m : MethodId) (x0 : Addr) (x1 : Addr) : entryFrame m #[(.ref x0), (.ref x1)] 2 = mkF m 0 #[.val (.ref x0), .val (.ref x1)] [] := by first | (simp [entryFrame, mkF, argsToLocals, Value.category]; done) | rfl
def Qiin_00 (Z : State) (a1 : Addr) (a2 : Addr) (h0 : Heap) (n0 : Nat) (v : Option Value) (h : Heap) (L : List Loc) : Prop := v = none ∧ Fr n0 L ∧ h = h0
theorem d14_0 : decode jdk_68_method_71_code 0 = .ok (.getstatic 18, 3) := by decide +kernel
theorem d14_3 : decode jdk_68_method_71_code 3 = .ok (.ifCond .eq 18, 3) := by decide +kernel
theorem d14_6 : decode jdk_68_method_71_code 6 = .ok (.aload_n 0, 1) := by decide +kernel
theorem d14_7 : decode jdk_68_method_71_code 7 = .ok (.getfield 22, 3) := by decide +kernel
theorem d14_10 : decode jdk_68_method_71_code 10 = .ok (.aload_n 1, 1) := by decide +kernel
theorem d14_11 : decode jdk_68_method_71_code 11 = .ok (.invokevirtual 40, 3) := by decide +kernel
theorem d14_14 : decode jdk_68_method_71_code 14 = .ok (.if_icmp .eq 7, 3) := by decide +kernel
theorem d14_21 : decode jdk_68_method_71_code 21 = .ok (.return_, 1) := by decide +kernel
set_option maxRecDepth 65536 in
set_option maxHeartbeats 40000000 in
theorem rmiin_00 (l : Launch) (Z : State) (a0 : Array Value) (hw : ∀ d ∈ tables_1, d.before a0 Z = true) (ws : List Jvm.Cond) (a1 : Addr) (a2 : Addr) (h0 : Heap) (n0 : Nat) (Z0 : n0 ≤ h0.size) (E_a1 : Exa Z h0 a1 "java/lang/StringBuilder") (F_coder_a1 : Fld Z h0 a1 "java/lang/AbstractStringBuilder" "coder" "B" (.int (0 : Int32))) (E_a2 : Exa Z h0 a2 "java/lang/String") (F_coder_a2 : Fld Z h0 a2 "java/lang/String" "coder" "B" (.int (0 : Int32))) (O0 : own_Old Z n0 h0) (hST : own_ST Z) : own_Met l own_y14 jdk_68_method_71_code 2 none ws ⟨1, 0, 0, 13⟩ #[(.ref a1), (.ref a2)] Z h0 (Qiin_00 Z a1 a2 h0 n0) := by
  refine own_met (plainFor_of_name pn_java_lang_AbstractStringBuilder) (fun p e s m below meth c s₁ hx hby hml hrt hlk hZ hown hnm X0 e0 es0 => ?_)
  have N0 := Fr.nil n0
  rw [ef_RR_2 m a1 a2]
  obtain ⟨ct, sv, hct, hsv, S__assertionsDisabled, S_HI_BYTE_SHIFT, S_LO_BYTE_SHIFT, S_COMPACT_STRINGS, S_SIOOBE_FORMATTER⟩ := id hST
  obtain ⟨T237, X237, e237, st237⟩ := getS2 X0 hx hZ hown (host := "") (Or.inl (own_h hw 54 rfl)) Via.refl e0 (S_COMPACT_STRINGS.ext O0.2) (g := (mkF m 0 #[rv a1, rv a2] [])) rfl (hb hby d14_0)
  refine own_by st237 ?_
  refine own_gk (XS.ifNo X237.here hx rfl (hb hby d14_3) rfl ((if0 _ _).trans (feq (show ¬ (ct = (0 : Int32)) from hct)).1)) ?_
  refine own_gk (XS.aloadN X237.here hx rfl (hb hby d14_6) rfl rfl) ?_
  obtain ⟨T238, X238, e238, st238⟩ := getF X237 hx hZ hown (host := "") (Or.inl (own_h hw 57 rfl)) Via.refl e237 F_coder_a1 (g := (mkF m 7 #[rv a1, rv a2] [(.ref a1)])) rfl rfl (hb hby d14_7)
  refine own_by st238 ?_
  refine own_gk (XS.aloadN X238.here hx rfl (hb hby d14_10) rfl rfl) ?_
  show own_Fin _ _ _ _ (T238.setTop (mkF m 11 #[rv a1, rv a2] [(.ref a2), (.int (0 : Int32))]))
  obtain ⟨_, T239, Lc239, X239, hQ239, st239⟩ := own_callV X238 hx hZ E_a2 hown (own_h hw 88 rfl) (own_h hw 36 rfl) (notFace_of_selects (args := #[]) (mvT hZ (own_h hw 38 rfl))) (own_h hw 38 rfl) (own_h hw 37 rfl) (own_h hw 7 rfl) (own_h hw 39 rfl) (by decide) (rmco_0 l Z a0 hw [] a2 h0 n0 Z0 F_coder_a2 O0 hST) (W := 1) (by decide) (by decide) (g := (mkF m 11 #[rv a1, rv a2] [(.ref a2), (.int (0 : Int32))])) rfl (by rw [hml]; rfl) (argsL := []) (rest := [(.int (0 : Int32))]) (lenOf pd__28__29_B rfl) rfl (Nat.le_of_eq rfl) (hb hby d14_11) rfl e238 (by decide) (by decide)
  obtain ⟨rfl, Nq239, e239⟩ := hQ239
  refine own_go st239 ?_
  have N239 := Fr.app N0 Nq239
  refine own_gk (XS.icmpYes X239.here hx rfl (pc0 := 14) (pc' := 21) rfl (hb hby d14_14) rfl (teq (by decide : (0 : Int32) = (0 : Int32))).1 (by decide) (by decide)) ?_
  obtain ⟨fs240, hr240, hrun240, hended240, hW240, hsame240⟩ := X239.leave (v := none) (fun _ => rfl)
  refine own_done (X239.returnOut hx hrt (hb hby d14_21) hr240) hrun240 hended240 ⟨_, _, rfl, ?_, ⟨_, rfl⟩, hW240, hsame240.mono (by decide) (by decide)⟩
  show Qiin_00 Z a1 a2 h0 n0 _ T239.heap _
  rw [e239]
  exact ⟨rfl, N239, rfl⟩
def Qiin_10 (Z : State) (a1 : Addr) (a2 : Addr) (h0 : Heap) (n0 : Nat) (v : Option Value) (h : Heap) (L : List Loc) : Prop := v = none ∧ Fr n0 L ∧ h = h0
theorem d14_17 : decode jdk_68_method_71_code 17 = .ok (.aload_n 0, 1) := by decide +kernel
theorem d14_18 : decode jdk_68_method_71_code 18 = .ok (.invokevirtual 195, 3) := by decide +kernel
theorem pd__28__29_V : parseMethodDescriptor "()V" = some ⟨[], none⟩ := by decide +kernel
set_option maxRecDepth 65536 in
set_option maxHeartbeats 40000000 in
theorem rmiin_10 (l : Launch) (Z : State) (a0 : Array Value) (hw : ∀ d ∈ tables_1, d.before a0 Z = true) (ws : List Jvm.Cond) (a1 : Addr) (a2 : Addr) (h0 : Heap) (n0 : Nat) (Z0 : n0 ≤ h0.size) (E_a1 : Exa Z h0 a1 "java/lang/StringBuilder") (F_coder_a1 : Fld Z h0 a1 "java/lang/AbstractStringBuilder" "coder" "B" (.int (1 : Int32))) (E_a2 : Exa Z h0 a2 "java/lang/String") (F_coder_a2 : Fld Z h0 a2 "java/lang/String" "coder" "B" (.int (0 : Int32))) (O0 : own_Old Z n0 h0) (hST : own_ST Z) : own_Met l own_y14 jdk_68_method_71_code 2 none ws ⟨2, 0, 0, 25⟩ #[(.ref a1), (.ref a2)] Z h0 (Qiin_10 Z a1 a2 h0 n0) := by
  refine own_met (plainFor_of_name pn_java_lang_AbstractStringBuilder) (fun p e s m below meth c s₁ hx hby hml hrt hlk hZ hown hnm X0 e0 es0 => ?_)
  have N0 := Fr.nil n0
  rw [ef_RR_2 m a1 a2]
  obtain ⟨ct, sv, hct, hsv, S__assertionsDisabled, S_HI_BYTE_SHIFT, S_LO_BYTE_SHIFT, S_COMPACT_STRINGS, S_SIOOBE_FORMATTER⟩ := id hST
  obtain ⟨T241, X241, e241, st241⟩ := getS2 X0 hx hZ hown (host := "") (Or.inl (own_h hw 54 rfl)) Via.refl e0 (S_COMPACT_STRINGS.ext O0.2) (g := (mkF m 0 #[rv a1, rv a2] [])) rfl (hb hby d14_0)
  refine own_by st241 ?_
  refine own_gk (XS.ifNo X241.here hx rfl (hb hby d14_3) rfl ((if0 _ _).trans (feq (show ¬ (ct = (0 : Int32)) from hct)).1)) ?_
  refine own_gk (XS.aloadN X241.here hx rfl (hb hby d14_6) rfl rfl) ?_
  obtain ⟨T242, X242, e242, st242⟩ := getF X241 hx hZ hown (host := "") (Or.inl (own_h hw 57 rfl)) Via.refl e241 F_coder_a1 (g := (mkF m 7 #[rv a1, rv a2] [(.ref a1)])) rfl rfl (hb hby d14_7)
  refine own_by st242 ?_
  refine own_gk (XS.aloadN X242.here hx rfl (hb hby d14_10) rfl rfl) ?_
  show own_Fin _ _ _ _ (T242.setTop (mkF m 11 #[rv a1, rv a2] [(.ref a2), (.int (1 : Int32))]))
  obtain ⟨_, T243, Lc243, X243, hQ243, st243⟩ := own_callV X242 hx hZ E_a2 hown (own_h hw 88 rfl) (own_h hw 36 rfl) (notFace_of_selects (args := #[]) (mvT hZ (own_h hw 38 rfl))) (own_h hw 38 rfl) (own_h hw 37 rfl) (own_h hw 7 rfl) (own_h hw 39 rfl) (by decide) (rmco_0 l Z a0 hw [] a2 h0 n0 Z0 F_coder_a2 O0 hST) (W := 1) (by decide) (by decide) (g := (mkF m 11 #[rv a1, rv a2] [(.ref a2), (.int (1 : Int32))])) rfl (by rw [hml]; rfl) (argsL := []) (rest := [(.int (1 : Int32))]) (lenOf pd__28__29_B rfl) rfl (Nat.le_of_eq rfl) (hb hby d14_11) rfl e242 (by decide) (by decide)
  obtain ⟨rfl, Nq243, e243⟩ := hQ243
  refine own_go st243 ?_
  have N243 := Fr.app N0 Nq243
  refine own_gk (XS.icmpNo X243.here hx rfl (hb hby d14_14) rfl (feq (by decide : ¬ ((1 : Int32) = (0 : Int32)))).1) ?_
  refine own_gk (XS.aloadN X243.here hx rfl (hb hby d14_17) rfl rfl) ?_
  obtain ⟨cq244, q244, q244'⟩ := E_a1.cell
  obtain ⟨_, _, ⟨T244, L244, k244, n244⟩, -, X244, ⟨Lc244, hQ244, l244, y244, z244⟩, st244⟩ := X243.privateBack hx (y := own_y49) hown (mvT hZ (own_h hw 235 rfl)) (mvT hZ (own_h hw 236 rfl)) (own_privSel (mvT hZ (own_h hw 236 rfl)) (mvT hZ (own_h hw 238 rfl)) (Cond.privateMethod_at (mvP hZ (own_h hw 237 rfl) (args := #[]))) (by decide)) (Cond.privateMethod_at (mvP hZ (own_h hw 237 rfl) (args := #[]))) (mvT hZ (own_h hw 239 rfl)) (by decide) (backOf (W := 0) (rminf1 l Z a0 hw [] a1 h0 n0 Z0 E_a1 F_coder_a1 O0 hST) hZ (own_h hw 239 rfl) (own_h hw 51 rfl) (by decide) (by decide)) (g := (mkF m 18 #[rv a1, rv a2] [(.ref a1)])) rfl (by rw [hml]; rfl) (Steps.refl _) (a := a1) (by rw [e243]; exact q244) q244' (argsL := []) (rest := []) (lenOf pd__28__29_V rfl) rfl (by show 2 * 0 + _ ≤ _; exact Nat.le_of_eq rfl) (hb hby d14_18) (fun _ hv => ⟨rfl, e243, (by decide : 0 + 0 ≤ _), (by decide : 0 + 0 ≤ _)⟩)
  dsimp only [Pt.U, Pt.locs, Pt.cells, Pt.slots] at X244 l244 y244 z244 st244 hQ244
  subst l244 y244 z244
  obtain ⟨rfl, Nq244, e244⟩ := hQ244
  refine own_go st244 ?_
  have N244 := Fr.app N243 Nq244
  obtain ⟨fs245, hr245, hrun245, hended245, hW245, hsame245⟩ := X244.leave (v := none) (fun _ => rfl)
  refine own_done (X244.returnOut hx hrt (hb hby d14_21) hr245) hrun245 hended245 ⟨_, _, rfl, ?_, ⟨_, rfl⟩, hW245, hsame245.mono (by decide) (by decide)⟩
  show Qiin_10 Z a1 a2 h0 n0 _ T244.heap _
  rw [e244]
  exact ⟨rfl, N244, rfl⟩
def Qiin_01 (Z : State) (a1 : Addr) (va : Addr) (kv : ClassId) (cc : Nat) (cnt : Nat) (f : Nat → Int32) (cs : Nat → Int32) (a2 : Addr) (h0 : Heap) (n0 : Nat) (v : Option Value) (h : Heap) (L : List Loc) : Prop := ∃ (vb : Addr) (kb : ClassId), v = none ∧ Fr n0 L ∧ Keep h0 h [a1] ∧ n0 ≤ vb ∧ h0.size ≤ vb ∧ Exa Z h a1 "java/lang/StringBuilder" ∧ Fld Z h a1 "java/lang/AbstractStringBuilder" "value" "[B" (.ref vb) ∧ Fld Z h a1 "java/lang/AbstractStringBuilder" "count" "I" (.int (Int32.ofNat (cnt))) ∧ Fld Z h a1 "java/lang/AbstractStringBuilder" "coder" "B" (.int (1 : Int32)) ∧ Fld Z h a1 "java/lang/AbstractStringBuilder" "maybeLatin1" "Z" (.int (0 : Int32)) ∧ Arv Z h vb kb .byte (Int32.ofNat (2 * cc)) (List.map Value.int (own_R (own_cpf (fun _ => (0 : Int32)) (own_u cs) (2 * 0) 0 (2 * cnt)) (2 * cc))) (.int (0 : Int32))
set_option maxRecDepth 65536 in
set_option maxHeartbeats 40000000 in
theorem rmiin_01 (l : Launch) (Z : State) (a0 : Array Value) (hw : ∀ d ∈ tables_1, d.before a0 Z = true) (ws : List Jvm.Cond) (a1 : Addr) (va : Addr) (kv : ClassId) (cc : Nat) (cnt : Nat) (f : Nat → Int32) (cs : Nat → Int32) (a2 : Addr) (h0 : Heap) (n0 : Nat) (Z0 : n0 ≤ h0.size) (E_a1 : Exa Z h0 a1 "java/lang/StringBuilder") (F_value_a1 : Fld Z h0 a1 "java/lang/AbstractStringBuilder" "value" "[B" (.ref va)) (F_count_a1 : Fld Z h0 a1 "java/lang/AbstractStringBuilder" "count" "I" (.int (Int32.ofNat (cnt)))) (F_coder_a1 : Fld Z h0 a1 "java/lang/AbstractStringBuilder" "coder" "B" (.int (0 : Int32))) (F_maybeLatin1_a1 : Fld Z h0 a1 "java/lang/AbstractStringBuilder" "maybeLatin1" "Z" (.int (0 : Int32))) (V_va : Arv Z h0 va kv .byte (Int32.ofNat (cc)) (List.map Value.int (own_R f cc)) (.int (0 : Int32))) (g_a1 : n0 ≤ a1) (g_va : n0 ≤ va) (O0 : own_Old Z n0 h0) (hST : own_ST Z) (hf : ∀ j, j < cnt → f j = own_lo cs j) (hcl : ∀ j, j < cnt → ¬ (255 : Int32) < cs j) (hch : ∀ j, own_ch (cs j)) (hcn : cnt ≤ cc) (hc2 : cc ≤ 64) (E_a2 : Exa Z h0 a2 "java/lang/String") (F_coder_a2 : Fld Z h0 a2 "java/lang/String" "coder" "B" (.int (1 : Int32))) : own_Met l own_y14 jdk_68_method_71_code 2 none ws ⟨6, 1, 128, 89⟩ #[(.ref a1), (.ref a2)] Z h0 (Qiin_01 Z a1 va kv cc cnt f cs a2 h0 n0) := by
  refine own_met (plainFor_of_name pn_java_lang_AbstractStringBuilder) (fun p e s m below meth c s₁ hx hby hml hrt hlk hZ hown hnm X0 e0 es0 => ?_)
  have N0 := Fr.nil n0
  rw [ef_RR_2 m a1 a2]
  have Kz := Keep.refl h0 [a1]
  obtain ⟨ct, sv, hct, hsv, S__assertionsDisabled, S_HI_BYTE_SHIFT, S_LO_BYTE_SHIFT, S_COMPACT_STRINGS, S_SIOOBE_FORMATTER⟩ := id hST
  obtain ⟨T246, X246, e246, st246⟩ := getS2 X0 hx hZ hown (host := "") (Or.inl (own_h hw 54 rfl)) Via.refl e0 (S_COMPACT_STRINGS.ext O0.2) (g := (mkF m 0 #[rv a1, rv a2] [])) rfl (hb hby d14_0)
  refine own_by st246 ?_
  refine own_gk (XS.ifNo X246.here hx rfl (hb hby d14_3) rfl ((if0 _ _).trans (feq (show ¬ (ct = (0 : Int32)) from hct)).1)) ?_
  refine own_gk (XS.aloadN X246.here hx rfl (hb hby d14_6) rfl rfl) ?_
  obtain ⟨T247, X247, e247, st247⟩ := getF X246 hx hZ hown (host := "") (Or.inl (own_h hw 57 rfl)) Via.refl e246 F_coder_a1 (g := (mkF m 7 #[rv a1, rv a2] [(.ref a1)])) rfl rfl (hb hby d14_7)
  refine own_by st247 ?_
  refine own_gk (XS.aloadN X247.here hx rfl (hb hby d14_10) rfl rfl) ?_
  show own_Fin _ _ _ _ (T247.setTop (mkF m 11 #[rv a1, rv a2] [(.ref a2), (.int (0 : Int32))]))
  obtain ⟨_, T248, Lc248, X248, hQ248, st248⟩ := own_callV X247 hx hZ E_a2 hown (own_h hw 88 rfl) (own_h hw 36 rfl) (notFace_of_selects (args := #[]) (mvT hZ (own_h hw 38 rfl))) (own_h hw 38 rfl) (own_h hw 37 rfl) (own_h hw 7 rfl) (own_h hw 39 rfl) (by decide) (rmco_1 l Z a0 hw [] a2 h0 n0 Z0 F_coder_a2 O0 hST) (W := 1) (by decide) (by decide) (g := (mkF m 11 #[rv a1, rv a2] [(.ref a2), (.int (0 : Int32))])) rfl (by rw [hml]; rfl) (argsL := []) (rest := [(.int (0 : Int32))]) (lenOf pd__28__29_B rfl) rfl (Nat.le_of_eq rfl) (hb hby d14_11) rfl e247 (by decide) (by decide)
  obtain ⟨rfl, Nq248, e248⟩ := hQ248
  refine own_go st248 ?_
  have N248 := Fr.app N0 Nq248
  refine own_gk (XS.icmpNo X248.here hx rfl (hb hby d14_14) rfl (feq (by decide : ¬ ((0 : Int32) = (1 : Int32)))).1) ?_
  refine own_gk (XS.aloadN X248.here hx rfl (hb hby d14_17) rfl rfl) ?_
  obtain ⟨cq249, q249, q249'⟩ := E_a1.cell
  obtain ⟨_, _, ⟨T249, L249, k249, n249⟩, -, X249, ⟨Lc249, hQ249, l249, y249, z249⟩, st249⟩ := X248.privateBack hx (y := own_y49) hown (mvT hZ (own_h hw 235 rfl)) (mvT hZ (own_h hw 236 rfl)) (own_privSel (mvT hZ (own_h hw 236 rfl)) (mvT hZ (own_h hw 238 rfl)) (Cond.privateMethod_at (mvP hZ (own_h hw 237 rfl) (args := #[]))) (by decide)) (Cond.privateMethod_at (mvP hZ (own_h hw 237 rfl) (args := #[]))) (mvT hZ (own_h hw 239 rfl)) (by decide) (backOf (W := 0) (rminf0 l Z a0 hw [] a1 va kv cc cnt f cs h0 n0 Z0 E_a1 F_value_a1 F_count_a1 F_coder_a1 F_maybeLatin1_a1 V_va g_a1 g_va O0 hST hf hcl hch hcn hc2) hZ (own_h hw 239 rfl) (own_h hw 51 rfl) (by decide) (by decide)) (g := (mkF m 18 #[rv a1, rv a2] [(.ref a1)])) rfl (by rw [hml]; rfl) (Steps.refl _) (a := a1) (by rw [e248]; exact q249) q249' (argsL := []) (rest := []) (lenOf pd__28__29_V rfl) rfl (by show 2 * 0 + _ ≤ _; exact Nat.le_of_eq rfl) (hb hby d14_18) (fun _ hv => ⟨rfl, e248, (by decide : 0 + 1 ≤ _), (by decide : 0 + 128 ≤ _)⟩)
  dsimp only [Pt.U, Pt.locs, Pt.cells, Pt.slots] at X249 l249 y249 z249 st249 hQ249
  subst l249 y249 z249
  refine own_go st249 ?_
  obtain ⟨vb_249, kb_249, rfl, Nq249, K249, g_vb_249, sb_vb_249, r249_0, r249_1, r249_2, r249_3, r249_4, r249_5⟩ := hQ249
  have ne_a1_vb_249 : a1 ≠ vb_249 := Nat.ne_of_lt (Nat.lt_of_lt_of_le E_a1.lt sb_vb_249)
  have ne_va_vb_249 : va ≠ vb_249 := Nat.ne_of_lt (Nat.lt_of_lt_of_le V_va.lt sb_vb_249)
  have ne_a2_vb_249 : a2 ≠ vb_249 := Nat.ne_of_lt (Nat.lt_of_lt_of_le E_a2.lt sb_vb_249)
  have sz_vb_249 : h0.size ≤ vb_249 := Nat.le_trans Kz.1 sb_vb_249
  have Od249 := O0.keep K249 (allS g_a1 all0)
  have E_a1_249 := E_a1.keep K249
  have V_va_249 := V_va.keep K249 (ninS (Ne.symm (Exa.neArv E_a1 V_va (own_h hw 42 rfl))) nin0)
  have E_a2_249 := E_a2.keep K249
  have F_coder_a2_249 := F_coder_a2.keep K249 (ninS (Exa.ne E_a2 E_a1 (by decide)) nin0)
  have Z249 : n0 ≤ T249.heap.size := Nat.le_trans Z0 K249.1
  have Kt249 := Kz.trans K249 (allS (P := fun x => x ∈ _ ∨ _ ≤ x) (Or.inl (List.mem_of_getElem? (i := 0) rfl)) all0)
  have N249 := Fr.app N248 Nq249
  obtain ⟨fs250, hr250, hrun250, hended250, hW250, hsame250⟩ := X249.leave (v := none) (fun _ => rfl)
  refine own_done (X249.returnOut hx hrt (hb hby d14_21) hr250) hrun250 hended250 ⟨_, _, rfl, ?_, ⟨_, rfl⟩, hW250, hsame250.mono (by decide) (by decide)⟩
  show Qiin_01 Z a1 va kv cc cnt f cs a2 h0 n0 _ T249.heap _
  exact ⟨vb_249, kb_249, rfl, N249, Kt249, g_vb_249, sz_vb_249, r249_0, r249_1, r249_2, r249_3, r249_4, r249_5⟩
theorem ef_RRII_4 (m : MethodId) (x0 : Addr) (x1 : Addr) (x2 : Int32) (x3 : Int32) : entryFrame m #[(.ref x0), (.ref x1), (.int x2), (.int x3)] 4 = mkF m 0 #[.val (.ref x0), .val (.ref x1), .val (.int x2), .val (.int x3)] [] := by first | (simp [entryFrame, mkF, argsToLocals, Value.category]; done) | rfl
def Qgb_00 (Z : State) (a1 : Addr) (v2 : Addr) (k2 : ClassId) (n : Nat) (ds : Nat → Int32) (a2 : Addr) (kb : ClassId) (M : Nat) (g : Nat → Int32) (o : Nat) (h0 : Heap) (n0 : Nat) (v : Option Value) (h : Heap) (L : List Loc) : Prop := v = none ∧ Fr n0 L ∧ Keep h0 h [a2] ∧ Arv Z h a2 kb .byte (Int32.ofNat (M)) (List.map Value.int (own_R (own_cpf g (own_lo ds) o 0 n) M)) (.int (0 : Int32))
theorem d15_0 : decode jdk_42_method_147_code 0 = .ok (.aload_n 0, 1) := by decide +kernel
theorem d15_1 : decode jdk_42_method_147_code 1 = .ok (.invokevirtual 335, 3) := by decide +kernel
theorem d15_4 : decode jdk_42_method_147_code 4 = .ok (.iload_n 3, 1) := by decide +kernel
theorem d15_5 : decode jdk_42_method_147_code 5 = .ok (.if_icmp .ne 23, 3) := by decide +kernel
theorem d15_8 : decode jdk_42_method_147_code 8 = .ok (.aload_n 0, 1) := by decide +kernel
theorem d15_9 : decode jdk_42_method_147_code 9 = .ok (.getfield 9, 3) := by decide +kernel
theorem d15_12 : decode jdk_42_method_147_code 12 = .ok (.iconst 0, 1) := by decide +kernel
theorem d15_13 : decode jdk_42_method_147_code 13 = .ok (.aload_n 1, 1) := by decide +kernel
theorem d15_14 : decode jdk_42_method_147_code 14 = .ok (.iload_n 2, 1) := by decide +kernel
theorem d15_15 : decode jdk_42_method_147_code 15 = .ok (.iload_n 3, 1) := by decide +kernel
theorem d15_16 : decode jdk_42_method_147_code 16 = .ok (.ishl, 1) := by decide +kernel
theorem d15_17 : decode jdk_42_method_147_code 17 = .ok (.aload_n 0, 1) := by decide +kernel
theorem d15_18 : decode jdk_42_method_147_code 18 = .ok (.getfield 9, 3) := by decide +kernel
theorem d15_21 : decode jdk_42_method_147_code 21 = .ok (.arraylength, 1) := by decide +kernel
theorem d15_22 : decode jdk_42_method_147_code 22 = .ok (.invokestatic 212, 3) := by decide +kernel
theorem d15_25 : decode jdk_42_method_147_code 25 = .ok (.goto 18, 3) := by decide +kernel
theorem d15_43 : decode jdk_42_method_147_code 43 = .ok (.return_, 1) := by decide +kernel
set_option maxRecDepth 65536 in
set_option maxHeartbeats 40000000 in
theorem rmgb_00 (l : Launch) (Z : State) (a0 : Array Value) (hw : ∀ d ∈ tables_1, d.before a0 Z = true) (ws : List Jvm.Cond) (a1 : Addr) (v2 : Addr) (k2 : ClassId) (n : Nat) (ds : Nat → Int32) (a2 : Addr) (kb : ClassId) (M : Nat) (g : Nat → Int32) (o : Nat) (h0 : Heap) (n0 : Nat) (Z0 : n0 ≤ h0.size) (E_a1 : Exa Z h0 a1 "java/lang/String") (F_value_a1 : Fld Z h0 a1 "java/lang/String" "value" "[B" (.ref v2)) (F_coder_a1 : Fld Z h0 a1 "java/lang/String" "coder" "B" (.int (0 : Int32))) (V_v2 : Arv Z h0 v2 k2 .byte (Int32.ofNat (n)) (List.map Value.int (own_R (own_lo ds) n)) (.int (0 : Int32))) (V_a2 : Arv Z h0 a2 kb .byte (Int32.ofNat (M)) (List.map Value.int (own_R g M)) (.int (0 : Int32))) (g_a2 : n0 ≤ a2) (nev : v2 ≠ a2) (ho : o + n ≤ M) (hM : M ≤ 128) (O0 : own_Old Z n0 h0) (hST : own_ST Z) : own_Met l own_y15 jdk_42_method_147_code 4 none ws ⟨1, 0, 0, 40⟩ #[(.ref a1), (.ref a2), (.int (Int32.ofNat (o))), (.int (0 : Int32))] Z h0 (Qgb_00 Z a1 v2 k2 n ds a2 kb M g o h0 n0) := by
  refine own_met (plainFor_of_name pn_java_lang_String) (fun p e s m below meth c s₁ hx hby hml hrt hlk hZ hown hnm X0 e0 es0 => ?_)
  have N0 := Fr.nil n0
  rw [ef_RRII_4 m a1 a2 (Int32.ofNat (o)) (0 : Int32)]
  have Kz := Keep.refl h0 [a2]
  refine own_gk (XS.aloadN X0.here hx rfl (hb hby d15_0) rfl rfl) ?_
  obtain ⟨_, T251, Lc251, X251, hQ251, st251⟩ := own_callV X0 hx hZ E_a1 hown (own_h hw 35 rfl) (own_h hw 36 rfl) (notFace_of_selects (args := #[]) (mvT hZ (own_h hw 38 rfl))) (own_h hw 38 rfl) (own_h hw 37 rfl) (own_h hw 7 rfl) (own_h hw 39 rfl) (by decide) (rmco_0 l Z a0 hw [] a1 h0 n0 Z0 F_coder_a1 O0 hST) (W := 0) (by decide) (by decide) (g := (mkF m 1 #[rv a1, rv a2, iv (Int32.ofNat (o)), iv (0 : Int32)] [(.ref a1)])) rfl (by rw [hml]; rfl) (argsL := []) (rest := []) (lenOf pd__28__29_B rfl) rfl (Nat.le_of_eq rfl) (hb hby d15_1) rfl e0 (by decide) (by decide)
  obtain ⟨rfl, Nq251, e251⟩ := hQ251
  refine own_go st251 ?_
  have N251 := Fr.app N0 Nq251
  refine own_gk (XS.iloadN X251.here hx rfl (hb hby d15_4) rfl) ?_
  refine own_gk (XS.icmpNo X251.here hx rfl (hb hby d15_5) rfl (teq (by decide : (0 : Int32) = (0 : Int32))).2) ?_
  refine own_gk (XS.aloadN X251.here hx rfl (hb hby d15_8) rfl rfl) ?_
  show own_Fin _ _ _ _ (T251.setTop (mkF m 9 #[rv a1, rv a2, iv (Int32.ofNat (o)), iv (0 : Int32)] [(.ref a1)]))
  obtain ⟨T252, X252, e252, st252⟩ := getF X251 hx hZ hown (host := "") (Or.inl (own_h hw 24 rfl)) Via.refl e251 F_value_a1 (g := (mkF m 9 #[rv a1, rv a2, iv (Int32.ofNat (o)), iv (0 : Int32)] [(.ref a1)])) rfl rfl (hb hby d15_9)
  refine own_by st252 ?_
  refine own_gk (XS.iconst X252.here hx rfl (hb hby d15_12)) ?_
  refine own_gk (XS.aloadN X252.here hx rfl (hb hby d15_13) rfl rfl) ?_
  refine own_gk (XS.iloadN X252.here hx rfl (hb hby d15_14) rfl) ?_
  refine own_gk (XS.iloadN X252.here hx rfl (hb hby d15_15) rfl) ?_
  show own_Fin _ _ _ _ (T252.setTop (mkF m 16 #[rv a1, rv a2, iv (Int32.ofNat (o)), iv (0 : Int32)] [(.int (0 : Int32)), (.int (Int32.ofNat (o))), (.ref a2), (.int (0 : Int32)), (.ref v2)]))
  refine own_gk (XS.ishl X252.here hx rfl (hb hby d15_16) rfl) ?_
  show own_Fin _ _ _ _ (T252.setTop (mkF m 17 #[rv a1, rv a2, iv (Int32.ofNat (o)), iv (0 : Int32)] [(.int ((Int32.ofNat (o)) <<< ((0 : Int32) &&& 31))), (.ref a2), (.int (0 : Int32)), (.ref v2)]))
  rw [show ((Int32.ofNat (o)) <<< ((0 : Int32) &&& 31)) = Int32.ofNat (o) from (own_shl0 (a := o) (by omega))]
  refine own_gk (XS.aloadN X252.here hx rfl (hb hby d15_17) rfl rfl) ?_
  obtain ⟨T253, X253, e253, st253⟩ := getF X252 hx hZ hown (host := "") (Or.inl (own_h hw 24 rfl)) Via.refl e252 F_value_a1 (g := (mkF m 18 #[rv a1, rv a2, iv (Int32.ofNat (o)), iv (0 : Int32)] [(.ref a1), (.int (Int32.ofNat (o))), (.ref a2), (.int (0 : Int32)), (.ref v2)])) rfl rfl (hb hby d15_18)
  refine own_by st253 ?_
  obtain ⟨cl254, Ar254, qa254, Sa254, Na254, Ha254, Ga254⟩ := id V_v2
  refine own_by (X253.arraylength hx (by rw [e253]; exact Ar254.1) (State.isArrayOf_alike hZ.alike Ar254.2.1) (g := (mkF m 21 #[rv a1, rv a2, iv (Int32.ofNat (o)), iv (0 : Int32)] [(.ref v2), (.int (Int32.ofNat (o))), (.ref a2), (.int (0 : Int32)), (.ref v2)])) rfl rfl (hb hby d15_21)) ?_
  rw [len_of Sa254 Na254]
  obtain ⟨T255, _, L255, X255, rfl, N255, K255, Vc255, st255⟩ := cpA X253 hx hZ hown (own_h hw 94 rfl) (own_h hw 97 rfl) (own_h hw 95 rfl) (own_h hw 96 rfl) e253 V_v2 V_a2 (Or.inl ⟨rfl, rfl⟩) (own_nn (a := 0) (by omega)) (own_nn (a := o) (by omega)) (own_nn (a := n) (by omega)) (own_le3 (a := 0) (b := n) (c := n) (by omega) (by omega) (by omega) (by omega)) (own_le3 (a := o) (b := n) (c := M) (by omega) (by omega) (by omega) (by omega)) rfl (own_le2 (a := o) (b := n) (n := M) (by omega) (by omega) (by omega)) N251 g_a2 (g := (mkF m 22 #[rv a1, rv a2, iv (Int32.ofNat (o)), iv (0 : Int32)] [(.int (Int32.ofNat (n))), (.int (Int32.ofNat (o))), (.ref a2), (.int (0 : Int32)), (.ref v2)])) rfl (by rw [hml]; rfl) rfl (hb hby d15_22) (by decide) (W := 0) (by show 2 * 0 + _ ≤ _; exact Nat.le_of_eq rfl) (by decide)
  refine own_by st255 ?_
  have Od255 := O0.keep K255 (allS g_a2 all0)
  have E_a1_255 := E_a1.keep K255
  have F_value_a1_255 := F_value_a1.keep K255 (ninS (Exa.neArv E_a1 V_a2 (own_h hw 6 rfl)) nin0)
  have F_coder_a1_255 := F_coder_a1.keep K255 (ninS (Exa.neArv E_a1 V_a2 (own_h hw 6 rfl)) nin0)
  have V_v2_255 := V_v2.keep K255 (ninS nev nin0)
  have Z255 : n0 ≤ T255.heap.size := Nat.le_trans Z0 K255.1
  have Kt255 := Kz.trans K255 (allS (P := fun x => x ∈ _ ∨ _ ≤ x) (Or.inl (List.mem_of_getElem? (i := 0) rfl)) all0)
  have V_a2_c255 : Arv Z T255.heap a2 kb .byte (Int32.ofNat (M)) (List.map Value.int (own_R (own_cpf g (own_lo ds) o 0 n) M)) (.int (0 : Int32)) := own_arvc Vc255 (own_cpR (f := own_lo ds) (g := g) (n := n) (m := M) (sp := 0) (dp := o) (nn := n) (by omega) (by omega) (by omega) (by omega))
  show own_Fin _ _ _ _ (T255.setTop (mkF m 25 #[rv a1, rv a2, iv (Int32.ofNat (o)), iv (0 : Int32)] []))
  refine own_gk (XS.goto X255.here hx rfl (pc0 := 25) (pc' := 43) rfl (hb hby d15_25) (by decide) (by decide)) ?_
  obtain ⟨fs256, hr256, hrun256, hended256, hW256, hsame256⟩ := X255.leave (v := none) (fun _ => rfl)
  refine own_done (X255.returnOut hx hrt (hb hby d15_43) hr256) hrun256 hended256 ⟨_, _, rfl, ?_, ⟨_, rfl⟩, hW256, hsame256.mono (by decide) (by decide)⟩
  show Qgb_00 Z a1 v2 k2 n ds a2 kb M g o h0 n0 _ T255.heap _
  exact ⟨rfl, N255, Kt255, V_a2_c255⟩
def Qgb_11 (Z : State) (a1 : Addr) (v2 : Addr) (k2 : ClassId) (n : Nat) (ds : Nat → Int32) (a2 : Addr) (kb : ClassId) (M : Nat) (g : Nat → Int32) (o : Nat) (h0 : Heap) (n0 : Nat) (v : Option Value) (h : Heap) (L : List Loc) : Prop := v = none ∧ Fr n0 L ∧ Keep h0 h [a2] ∧ Arv Z h a2 kb .byte (Int32.ofNat (2 * M)) (List.map Value.int (own_R (own_cpf g (own_u ds) (2 * o) 0 (2 * n)) (2 * M))) (.int (0 : Int32))
set_option maxRecDepth 65536 in
set_option maxHeartbeats 40000000 in
theorem rmgb_11 (l : Launch) (Z : State) (a0 : Array Value) (hw : ∀ d ∈ tables_1, d.before a0 Z = true) (ws : List Jvm.Cond) (a1 : Addr) (v2 : Addr) (k2 : ClassId) (n : Nat) (ds : Nat → Int32) (a2 : Addr) (kb : ClassId) (M : Nat) (g : Nat → Int32) (o : Nat) (h0 : Heap) (n0 : Nat) (Z0 : n0 ≤ h0.size) (E_a1 : Exa Z h0 a1 "java/lang/String") (F_value_a1 : Fld Z h0 a1 "java/lang/String" "value" "[B" (.ref v2)) (F_coder_a1 : Fld Z h0 a1 "java/lang/String" "coder" "B" (.int (1 : Int32))) (V_v2 : Arv Z h0 v2 k2 .byte (Int32.ofNat (2 * n)) (List.map Value.int (own_R (own_u ds) (2 * n))) (.int (0 : Int32))) (V_a2 : Arv Z h0 a2 kb .byte (Int32.ofNat (2 * M)) (List.map Value.int (own_R g (2 * M))) (.int (0 : Int32))) (g_a2 : n0 ≤ a2) (nev : v2 ≠ a2) (ho : o + n ≤ M) (hM : M ≤ 128) (O0 : own_Old Z n0 h0) (hST : own_ST Z) : own_Met l own_y15 jdk_42_method_147_code 4 none ws ⟨1, 0, 0, 40⟩ #[(.ref a1), (.ref a2), (.int (Int32.ofNat (o))), (.int (1 : Int32))] Z h0 (Qgb_11 Z a1 v2 k2 n ds a2 kb M g o h0 n0) := by
  refine own_met (plainFor_of_name pn_java_lang_String) (fun p e s m below meth c s₁ hx hby hml hrt hlk hZ hown hnm X0 e0 es0 => ?_)
  have N0 := Fr.nil n0
  rw [ef_RRII_4 m a1 a2 (Int32.ofNat (o)) (1 : Int32)]
  have Kz := Keep.refl h0 [a2]
  refine own_gk (XS.aloadN X0.here hx rfl (hb hby d15_0) rfl rfl) ?_
  obtain ⟨_, T257, Lc257, X257, hQ257, st257⟩ := own_callV X0 hx hZ E_a1 hown (own_h hw 35 rfl) (own_h hw 36 rfl) (notFace_of_selects (args := #[]) (mvT hZ (own_h hw 38 rfl))) (own_h hw 38 rfl) (own_h hw 37 rfl) (own_h hw 7 rfl) (own_h hw 39 rfl) (by decide) (rmco_1 l Z a0 hw [] a1 h0 n0 Z0 F_coder_a1 O0 hST) (W := 0) (by decide) (by decide) (g := (mkF m 1 #[rv a1, rv a2, iv (Int32.ofNat (o)), iv (1 : Int32)] [(.ref a1)])) rfl (by rw [hml]; rfl) (argsL := []) (rest := []) (lenOf pd__28__29_B rfl) rfl (Nat.le_of_eq rfl) (hb hby d15_1) rfl e0 (by decide) (by decide)
  obtain ⟨rfl, Nq257, e257⟩ := hQ257
  refine own_go st257 ?_
  have N257 := Fr.app N0 Nq257
  refine own_gk (XS.iloadN X257.here hx rfl (hb hby d15_4) rfl) ?_
  refine own_gk (XS.icmpNo X257.here hx rfl (hb hby d15_5) rfl (teq (by decide : (1 : Int32) = (1 : Int32))).2) ?_
  refine own_gk (XS.aloadN X257.here hx rfl (hb hby d15_8) rfl rfl) ?_
  show own_Fin _ _ _ _ (T257.setTop (mkF m 9 #[rv a1, rv a2, iv (Int32.ofNat (o)), iv (1 : Int32)] [(.ref a1)]))
  obtain ⟨T258, X258, e258, st258⟩ := getF X257 hx hZ hown (host := "") (Or.inl (own_h hw 24 rfl)) Via.refl e257 F_value_a1 (g := (mkF m 9 #[rv a1, rv a2, iv (Int32.ofNat (o)), iv (1 : Int32)] [(.ref a1)])) rfl rfl (hb hby d15_9)
  refine own_by st258 ?_
  refine own_gk (XS.iconst X258.here hx rfl (hb hby d15_12)) ?_
  refine own_gk (XS.aloadN X258.here hx rfl (hb hby d15_13) rfl rfl) ?_
  refine own_gk (XS.iloadN X258.here hx rfl (hb hby d15_14) rfl) ?_
  refine own_gk (XS.iloadN X258.here hx rfl (hb hby d15_15) rfl) ?_
  show own_Fin _ _ _ _ (T258.setTop (mkF m 16 #[rv a1, rv a2, iv (Int32.ofNat (o)), iv (1 : Int32)] [(.int (1 : Int32)), (.int (Int32.ofNat (o))), (.ref a2), (.int (0 : Int32)), (.ref v2)]))
  refine own_gk (XS.ishl X258.here hx rfl (hb hby d15_16) rfl) ?_
  show own_Fin _ _ _ _ (T258.setTop (mkF m 17 #[rv a1, rv a2, iv (Int32.ofNat (o)), iv (1 : Int32)] [(.int ((Int32.ofNat (o)) <<< ((1 : Int32) &&& 31))), (.ref a2), (.int (0 : Int32)), (.ref v2)]))
  rw [show ((Int32.ofNat (o)) <<< ((1 : Int32) &&& 31)) = Int32.ofNat (2 * o) from (own_shl1 (a := o) (by omega))]
  refine own_gk (XS.aloadN X258.here hx rfl (hb hby d15_17) rfl rfl) ?_
  obtain ⟨T259, X259, e259, st259⟩ := getF X258 hx hZ hown (host := "") (Or.inl (own_h hw 24 rfl)) Via.refl e258 F_value_a1 (g := (mkF m 18 #[rv a1, rv a2, iv (Int32.ofNat (o)), iv (1 : Int32)] [(.ref a1), (.int (Int32.ofNat (2 * o))), (.ref a2), (.int (0 : Int32)), (.ref v2)])) rfl rfl (hb hby d15_18)
  refine own_by st259 ?_
  obtain ⟨cl260, Ar260, qa260, Sa260, Na260, Ha260, Ga260⟩ := id V_v2
  refine own_by (X259.arraylength hx (by rw [e259]; exact Ar260.1) (State.isArrayOf_alike hZ.alike Ar260.2.1) (g := (mkF m 21 #[rv a1, rv a2, iv (Int32.ofNat (o)), iv (1 : Int32)] [(.ref v2), (.int (Int32.ofNat (2 * o))), (.ref a2), (.int (0 : Int32)), (.ref v2)])) rfl rfl (hb hby d15_21)) ?_
  rw [len_of Sa260 Na260]
  obtain ⟨T261, _, L261, X261, rfl, N261, K261, Vc261, st261⟩ := cpA X259 hx hZ hown (own_h hw 94 rfl) (own_h hw 97 rfl) (own_h hw 95 rfl) (own_h hw 96 rfl) e259 V_v2 V_a2 (Or.inl ⟨rfl, rfl⟩) (own_nn (a := 0) (by omega)) (own_nn (a := 2 * o) (by omega)) (own_nn (a := 2 * n) (by omega)) (own_le3 (a := 0) (b := 2 * n) (c := 2 * n) (by omega) (by omega) (by omega) (by omega)) (own_le3 (a := 2 * o) (b := 2 * n) (c := 2 * M) (by omega) (by omega) (by omega) (by omega)) rfl (own_le2 (a := 2 * o) (b := 2 * n) (n := 2 * M) (by omega) (by omega) (by omega)) N257 g_a2 (g := (mkF m 22 #[rv a1, rv a2, iv (Int32.ofNat (o)), iv (1 : Int32)] [(.int (Int32.ofNat (2 * n))), (.int (Int32.ofNat (2 * o))), (.ref a2), (.int (0 : Int32)), (.ref v2)])) rfl (by rw [hml]; rfl) rfl (hb hby d15_22) (by decide) (W := 0) (by show 2 * 0 + _ ≤ _; exact Nat.le_of_eq rfl) (by decide)
  refine own_by st261 ?_
  have Od261 := O0.keep K261 (allS g_a2 all0)
  have E_a1_261 := E_a1.keep K261
  have F_value_a1_261 := F_value_a1.keep K261 (ninS (Exa.neArv E_a1 V_a2 (own_h hw 6 rfl)) nin0)
  have F_coder_a1_261 := F_coder_a1.keep K261 (ninS (Exa.neArv E_a1 V_a2 (own_h hw 6 rfl)) nin0)
  have V_v2_261 := V_v2.keep K261 (ninS nev nin0)
  have Z261 : n0 ≤ T261.heap.size := Nat.le_trans Z0 K261.1
  have Kt261 := Kz.trans K261 (allS (P := fun x => x ∈ _ ∨ _ ≤ x) (Or.inl (List.mem_of_getElem? (i := 0) rfl)) all0)
  have V_a2_c261 : Arv Z T261.heap a2 kb .byte (Int32.ofNat (2 * M)) (List.map Value.int (own_R (own_cpf g (own_u ds) (2 * o) 0 (2 * n)) (2 * M))) (.int (0 : Int32)) := own_arvc Vc261 (own_cpR (f := own_u ds) (g := g) (n := 2 * n) (m := 2 * M) (sp := 0) (dp := 2 * o) (nn := 2 * n) (by omega) (by omega) (by omega) (by omega))
  show own_Fin _ _ _ _ (T261.setTop (mkF m 25 #[rv a1, rv a2, iv (Int32.ofNat (o)), iv (1 : Int32)] []))
  refine own_gk (XS.goto X261.here hx rfl (pc0 := 25) (pc' := 43) rfl (hb hby d15_25) (by decide) (by decide)) ?_
  obtain ⟨fs262, hr262, hrun262, hended262, hW262, hsame262⟩ := X261.leave (v := none) (fun _ => rfl)
  refine own_done (X261.returnOut hx hrt (hb hby d15_43) hr262) hrun262 hended262 ⟨_, _, rfl, ?_, ⟨_, rfl⟩, hW262, hsame262.mono (by decide) (by decide)⟩
  show Qgb_11 Z a1 v2 k2 n ds a2 kb M g o h0 n0 _ T261.heap _
  exact ⟨rfl, N261, Kt261, V_a2_c261⟩
def Qgb_10 (Z : State) (a1 : Addr) (v2 : Addr) (k2 : ClassId) (n : Nat) (ds : Nat → Int32) (a2 : Addr) (kb : ClassId) (M : Nat) (g : Nat → Int32) (o : Nat) (h0 : Heap) (n0 : Nat) (v : Option Value) (h : Heap) (L : List Loc) : Prop := v = none ∧ Fr n0 L ∧ Keep h0 h [a2] ∧ Arv Z h a2 kb .byte (Int32.ofNat (2 * M)) (List.map Value.int (own_R (own_cpf g (own_u ds) (2 * o) 0 (2 * n)) (2 * M))) (.int (0 : Int32))
theorem d15_28 : decode jdk_42_method_147_code 28 = .ok (.aload_n 0, 1) := by decide +kernel
theorem d15_29 : decode jdk_42_method_147_code 29 = .ok (.getfield 9, 3) := by decide +kernel
theorem d15_32 : decode jdk_42_method_147_code 32 = .ok (.iconst 0, 1) := by decide +kernel
theorem d15_33 : decode jdk_42_method_147_code 33 = .ok (.aload_n 1, 1) := by decide +kernel
theorem d15_34 : decode jdk_42_method_147_code 34 = .ok (.iload_n 2, 1) := by decide +kernel
theorem d15_35 : decode jdk_42_method_147_code 35 = .ok (.aload_n 0, 1) := by decide +kernel
theorem d15_36 : decode jdk_42_method_147_code 36 = .ok (.getfield 9, 3) := by decide +kernel
theorem d15_39 : decode jdk_42_method_147_code 39 = .ok (.arraylength, 1) := by decide +kernel
theorem d15_40 : decode jdk_42_method_147_code 40 = .ok (.invokestatic 106, 3) := by decide +kernel
set_option maxRecDepth 65536 in
set_option maxHeartbeats 40000000 in
theorem rmgb_10 (l : Launch) (Z : State) (a0 : Array Value) (hw : ∀ d ∈ tables_1, d.before a0 Z = true) (ws : List Jvm.Cond) (a1 : Addr) (v2 : Addr) (k2 : ClassId) (n : Nat) (ds : Nat → Int32) (a2 : Addr) (kb : ClassId) (M : Nat) (g : Nat → Int32) (o : Nat) (h0 : Heap) (n0 : Nat) (Z0 : n0 ≤ h0.size) (E_a1 : Exa Z h0 a1 "java/lang/String") (F_value_a1 : Fld Z h0 a1 "java/lang/String" "value" "[B" (.ref v2)) (F_coder_a1 : Fld Z h0 a1 "java/lang/String" "coder" "B" (.int (0 : Int32))) (V_v2 : Arv Z h0 v2 k2 .byte (Int32.ofNat (n)) (List.map Value.int (own_R (own_lo ds) n)) (.int (0 : Int32))) (V_a2 : Arv Z h0 a2 kb .byte (Int32.ofNat (2 * M)) (List.map Value.int (own_R g (2 * M))) (.int (0 : Int32))) (g_a2 : n0 ≤ a2) (nev : v2 ≠ a2) (ho : o + n ≤ M) (hM : M ≤ 128) (O0 : own_Old Z n0 h0) (hST : own_ST Z) (hdl : ∀ j, j < n → ¬ (255 : Int32) < ds j) (hdc : ∀ j, own_ch (ds j)) : own_Met l own_y15 jdk_42_method_147_code 4 none ws ⟨5, 0, 0, 76⟩ #[(.ref a1), (.ref a2), (.int (Int32.ofNat (o))), (.int (1 : Int32))] Z h0 (Qgb_10 Z a1 v2 k2 n ds a2 kb M g o h0 n0) := by
  refine own_met (plainFor_of_name pn_java_lang_String) (fun p e s m below meth c s₁ hx hby hml hrt hlk hZ hown hnm X0 e0 es0 => ?_)
  have N0 := Fr.nil n0
  rw [ef_RRII_4 m a1 a2 (Int32.ofNat (o)) (1 : Int32)]
  have Kz := Keep.refl h0 [a2]
  refine own_gk (XS.aloadN X0.here hx rfl (hb hby d15_0) rfl rfl) ?_
  obtain ⟨_, T263, Lc263, X263, hQ263, st263⟩ := own_callV X0 hx hZ E_a1 hown (own_h hw 35 rfl) (own_h hw 36 rfl) (notFace_of_selects (args := #[]) (mvT hZ (own_h hw 38 rfl))) (own_h hw 38 rfl) (own_h hw 37 rfl) (own_h hw 7 rfl) (own_h hw 39 rfl) (by decide) (rmco_0 l Z a0 hw [] a1 h0 n0 Z0 F_coder_a1 O0 hST) (W := 0) (by decide) (by decide) (g := (mkF m 1 #[rv a1, rv a2, iv (Int32.ofNat (o)), iv (1 : Int32)] [(.ref a1)])) rfl (by rw [hml]; rfl) (argsL := []) (rest := []) (lenOf pd__28__29_B rfl) rfl (Nat.le_of_eq rfl) (hb hby d15_1) rfl e0 (by decide) (by decide)
  obtain ⟨rfl, Nq263, e263⟩ := hQ263
  refine own_go st263 ?_
  have N263 := Fr.app N0 Nq263
  refine own_gk (XS.iloadN X263.here hx rfl (hb hby d15_4) rfl) ?_
  refine own_gk (XS.icmpYes X263.here hx rfl (pc0 := 5) (pc' := 28) rfl (hb hby d15_5) rfl (feq (by decide : ¬ ((0 : Int32) = (1 : Int32)))).2 (by decide) (by decide)) ?_
  refine own_gk (XS.aloadN X263.here hx rfl (hb hby d15_28) rfl rfl) ?_
  show own_Fin _ _ _ _ (T263.setTop (mkF m 29 #[rv a1, rv a2, iv (Int32.ofNat (o)), iv (1 : Int32)] [(.ref a1)]))
  obtain ⟨T264, X264, e264, st264⟩ := getF X263 hx hZ hown (host := "") (Or.inl (own_h hw 24 rfl)) Via.refl e263 F_value_a1 (g := (mkF m 29 #[rv a1, rv a2, iv (Int32.ofNat (o)), iv (1 : Int32)] [(.ref a1)])) rfl rfl (hb hby d15_29)
  refine own_by st264 ?_
  refine own_gk (XS.iconst X264.here hx rfl (hb hby d15_32)) ?_
  refine own_gk (XS.aloadN X264.here hx rfl (hb hby d15_33) rfl rfl) ?_
  refine own_gk (XS.iloadN X264.here hx rfl (hb hby d15_34) rfl) ?_
  refine own_gk (XS.aloadN X264.here hx rfl (hb hby d15_35) rfl rfl) ?_
  show own_Fin _ _ _ _ (T264.setTop (mkF m 36 #[rv a1, rv a2, iv (Int32.ofNat (o)), iv (1 : Int32)] [(.ref a1), (.int (Int32.ofNat (o))), (.ref a2), (.int (0 : Int32)), (.ref v2)]))
  obtain ⟨T265, X265, e265, st265⟩ := getF X264 hx hZ hown (host := "") (Or.inl (own_h hw 24 rfl)) Via.refl e264 F_value_a1 (g := (mkF m 36 #[rv a1, rv a2, iv (Int32.ofNat (o)), iv (1 : Int32)] [(.ref a1), (.int (Int32.ofNat (o))), (.ref a2), (.int (0 : Int32)), (.ref v2)])) rfl rfl (hb hby d15_36)
  refine own_by st265 ?_
  obtain ⟨cl266, Ar266, qa266, Sa266, Na266, Ha266, Ga266⟩ := id V_v2
  refine own_by (X265.arraylength hx (by rw [e265]; exact Ar266.1) (State.isArrayOf_alike hZ.alike Ar266.2.1) (g := (mkF m 39 #[rv a1, rv a2, iv (Int32.ofNat (o)), iv (1 : Int32)] [(.ref v2), (.int (Int32.ofNat (o))), (.ref a2), (.int (0 : Int32)), (.ref v2)])) rfl rfl (hb hby d15_39)) ?_
  rw [len_of Sa266 Na266]
  obtain ⟨_, T267, Lc267, X267, hQ267, st267⟩ := own_callS X265 hx hZ hown (own_h hw 260 rfl) (own_h hw 243 rfl) (own_h hw 157 rfl) (own_h hw 244 rfl) (by decide) (rmlinf l Z a0 hw [] v2 k2 n (own_lo ds) ds a2 kb M g o n h0 n0 Z0 V_v2 V_a2 g_a2 nev O0 hST (fun _ _ => rfl) hdl hdc (Nat.le_refl _) (by omega) ho hM) (W := 0) (by decide) (by decide) (g := (mkF m 40 #[rv a1, rv a2, iv (Int32.ofNat (o)), iv (1 : Int32)] [(.int (Int32.ofNat (n))), (.int (Int32.ofNat (o))), (.ref a2), (.int (0 : Int32)), (.ref v2)])) rfl (by rw [hml]; rfl) (argsL := [(.ref v2), (.int (0 : Int32)), (.ref a2), (.int (Int32.ofNat (o))), (.int (Int32.ofNat (n)))]) (rest := []) (lenOf pd__28__5b_BI_5b_BII_29_V rfl) rfl (Nat.le_of_eq rfl) (hb hby d15_40) rfl e265 (by decide) (by decide)
  refine own_go st267 ?_
  obtain ⟨rfl, Nq267, K267, r267_0⟩ := hQ267
  have Od267 := O0.keep K267 (allS g_a2 all0)
  have E_a1_267 := E_a1.keep K267
  have F_value_a1_267 := F_value_a1.keep K267 (ninS (Exa.neArv E_a1 V_a2 (own_h hw 6 rfl)) nin0)
  have F_coder_a1_267 := F_coder_a1.keep K267 (ninS (Exa.neArv E_a1 V_a2 (own_h hw 6 rfl)) nin0)
  have V_v2_267 := V_v2.keep K267 (ninS nev nin0)
  have Z267 : n0 ≤ T267.heap.size := Nat.le_trans Z0 K267.1
  have Kt267 := Kz.trans K267 (allS (P := fun x => x ∈ _ ∨ _ ≤ x) (Or.inl (List.mem_of_getElem? (i := 0) rfl)) all0)
  have N267 := Fr.app N263 Nq267
  obtain ⟨fs268, hr268, hrun268, hended268, hW268, hsame268⟩ := X267.leave (v := none) (fun _ => rfl)
  refine own_done (X267.returnOut hx hrt (hb hby d15_43) hr268) hrun268 hended268 ⟨_, _, rfl, ?_, ⟨_, rfl⟩, hW268, hsame268.mono (by decide) (by decide)⟩
  show Qgb_10 Z a1 v2 k2 n ds a2 kb M g o h0 n0 _ T267.heap _
  exact ⟨rfl, N267, Kt267, r267_0⟩
theorem own_capN {c m : Nat} (h : m ≤ c) : own_cap c m = c := by unfold own_cap; rw [if_pos h]
theorem own_capG {c m : Nat} (h : ¬ m ≤ c) : own_cap c m = max m (2 * c + 2) := by unfold own_cap; rw [if_neg h]
theorem own_cpf00 {g f : Nat → Int32} {n j : Nat} (h : j < 2 * n) : own_cpf g f (2 * 0) 0 (2 * n) j = f j := by
  unfold own_cpf; rw [if_pos ⟨by omega, by omega⟩]; congr 1; omega
theorem ef_RIR_3 (m : MethodId) (x0 : Addr) (x1 : Int32) (x2 : Addr) : entryFrame m #[(.ref x0), (.int x1), (.ref x2)] 3 = mkF m 0 #[.val (.ref x0), .val (.int x1), .val (.ref x2)] [] := by first | (simp [entryFrame, mkF, argsToLocals, Value.category]; done) | rfl
def Qpst_00 (Z : State) (a1 : Addr) (va : Addr) (kv : ClassId) (cc : Nat) (cnt : Nat) (f : Nat → Int32) (cs : Nat → Int32) (a2 : Addr) (v2 : Addr) (k2 : ClassId) (n : Nat) (ds : Nat → Int32) (h0 : Heap) (n0 : Nat) (v : Option Value) (h : Heap) (L : List Loc) : Prop := v = none ∧ Fr n0 L ∧ Keep h0 h [va] ∧ Arv Z h va kv .byte (Int32.ofNat (cc)) (List.map Value.int (own_R (own_cpf f (own_lo ds) cnt 0 n) cc)) (.int (0 : Int32))
theorem d13_0 : decode jdk_68_method_73_code 0 = .ok (.aload_n 0, 1) := by decide +kernel
theorem d13_1 : decode jdk_68_method_73_code 1 = .ok (.aload_n 2, 1) := by decide +kernel
theorem d13_2 : decode jdk_68_method_73_code 2 = .ok (.invokevirtual 397, 3) := by decide +kernel
theorem pd__28_Ljava_2f_lang_2f_String_3b__29_V : parseMethodDescriptor "(Ljava/lang/String;)V" = some ⟨[(.object "java/lang/String")], none⟩ := by decide +kernel
theorem d13_5 : decode jdk_68_method_73_code 5 = .ok (.aload_n 2, 1) := by decide +kernel
theorem d13_6 : decode jdk_68_method_73_code 6 = .ok (.aload_n 0, 1) := by decide +kernel
theorem d13_7 : decode jdk_68_method_73_code 7 = .ok (.getfield 15, 3) := by decide +kernel
theorem d13_10 : decode jdk_68_method_73_code 10 = .ok (.iload_n 1, 1) := by decide +kernel
theorem d13_11 : decode jdk_68_method_73_code 11 = .ok (.aload_n 0, 1) := by decide +kernel
theorem d13_12 : decode jdk_68_method_73_code 12 = .ok (.getfield 22, 3) := by decide +kernel
theorem d13_15 : decode jdk_68_method_73_code 15 = .ok (.invokevirtual 399, 3) := by decide +kernel
theorem pd__28__5b_BIB_29_V : parseMethodDescriptor "([BIB)V" = some ⟨[(.array .byte), .int, .byte], none⟩ := by decide +kernel
theorem d13_18 : decode jdk_68_method_73_code 18 = .ok (.return_, 1) := by decide +kernel
set_option maxRecDepth 65536 in
set_option maxHeartbeats 40000000 in
theorem rmpst_00 (l : Launch) (Z : State) (a0 : Array Value) (hw : ∀ d ∈ tables_1, d.before a0 Z = true) (ws : List Jvm.Cond) (a1 : Addr) (va : Addr) (kv : ClassId) (cc : Nat) (cnt : Nat) (f : Nat → Int32) (cs : Nat → Int32) (a2 : Addr) (v2 : Addr) (k2 : ClassId) (n : Nat) (ds : Nat → Int32) (h0 : Heap) (n0 : Nat) (Z0 : n0 ≤ h0.size) (E_a1 : Exa Z h0 a1 "java/lang/StringBuilder") (F_value_a1 : Fld Z h0 a1 "java/lang/AbstractStringBuilder" "value" "[B" (.ref va)) (F_count_a1 : Fld Z h0 a1 "java/lang/AbstractStringBuilder" "count" "I" (.int (Int32.ofNat (cnt)))) (F_coder_a1 : Fld Z h0 a1 "java/lang/AbstractStringBuilder" "coder" "B" (.int (0 : Int32))) (F_maybeLatin1_a1 : Fld Z h0 a1 "java/lang/AbstractStringBuilder" "maybeLatin1" "Z" (.int (0 : Int32))) (V_va : Arv Z h0 va kv .byte (Int32.ofNat (cc)) (List.map Value.int (own_R f cc)) (.int (0 : Int32))) (g_a1 : n0 ≤ a1) (g_va : n0 ≤ va) (E_a2 : Exa Z h0 a2 "java/lang/String") (F_value_a2 : Fld Z h0 a2 "java/lang/String" "value" "[B" (.ref v2)) (F_coder_a2 : Fld Z h0 a2 "java/lang/String" "coder" "B" (.int (0 : Int32))) (V_v2 : Arv Z h0 v2 k2 .byte (Int32.ofNat (n)) (List.map Value.int (own_R (own_lo ds) n)) (.int (0 : Int32))) (nev : va ≠ v2) (O0 : own_Old Z n0 h0) (hST : own_ST Z) (hroom : cnt + n ≤ cc) (hc2 : cc ≤ 128) : own_Met l own_y13 jdk_68_method_73_code 3 none ws ⟨2, 0, 0, 55⟩ #[(.ref a1), (.int (Int32.ofNat (cnt))), (.ref a2)] Z h0 (Qpst_00 Z a1 va kv cc cnt f cs a2 v2 k2 n ds h0 n0) := by
  refine own_met (plainFor_of_name pn_java_lang_AbstractStringBuilder) (fun p e s m below meth c s₁ hx hby hml hrt hlk hZ hown hnm X0 e0 es0 => ?_)
  have N0 := Fr.nil n0
  rw [ef_RIR_3 m a1 (Int32.ofNat (cnt)) a2]
  have Kz := Keep.refl h0 [va]
  refine own_gk (XS.aloadN X0.here hx rfl (hb hby d13_0) rfl rfl) ?_
  refine own_gk (XS.aloadN X0.here hx rfl (hb hby d13_1) rfl rfl) ?_
  obtain ⟨cq269, q269, q269'⟩ := E_a1.cell
  obtain ⟨_, _, ⟨T269, L269, k269, n269⟩, -, X269, ⟨Lc269, hQ269, l269, y269, z269⟩, st269⟩ := X0.privateBack hx (y := own_y14) hown (mvT hZ (own_h hw 83 rfl)) (mvT hZ (own_h hw 84 rfl)) (own_privSel (mvT hZ (own_h hw 84 rfl)) (mvT hZ (own_h hw 86 rfl)) (Cond.privateMethod_at (mvP hZ (own_h hw 85 rfl) (args := #[]))) (by decide)) (Cond.privateMethod_at (mvP hZ (own_h hw 85 rfl) (args := #[]))) (mvT hZ (own_h hw 87 rfl)) (by decide) (backOf (W := 0) (rmiin_00 l Z a0 hw [] a1 a2 h0 n0 Z0 E_a1 F_coder_a1 E_a2 F_coder_a2 O0 hST) hZ (own_h hw 87 rfl) (own_h hw 51 rfl) (by decide) (by decide)) (g := (mkF m 2 #[rv a1, iv (Int32.ofNat (cnt)), rv a2] [(.ref a2), (.ref a1)])) rfl (by rw [hml]; rfl) (Steps.refl _) (a := a1) (by rw [e0]; exact q269) q269' (argsL := [(.ref a2)]) (rest := []) (lenOf pd__28_Ljava_2f_lang_2f_String_3b__29_V rfl) rfl (by show 2 * 0 + _ ≤ _; exact Nat.le_of_eq rfl) (hb hby d13_2) (fun _ hv => ⟨rfl, e0, (by decide : 0 + 0 ≤ _), (by decide : 0 + 0 ≤ _)⟩)
  dsimp only [Pt.U, Pt.locs, Pt.cells, Pt.slots] at X269 l269 y269 z269 st269 hQ269
  subst l269 y269 z269
  obtain ⟨rfl, Nq269, e269⟩ := hQ269
  refine own_go st269 ?_
  have N269 := Fr.app N0 Nq269
  refine own_gk (XS.aloadN X269.here hx rfl (hb hby d13_5) rfl rfl) ?_
  refine own_gk (XS.aloadN X269.here hx rfl (hb hby d13_6) rfl rfl) ?_
  show own_Fin _ _ _ _ (T269.setTop (mkF m 7 #[rv a1, iv (Int32.ofNat (cnt)), rv a2] [(.ref a1), (.ref a2)]))
  obtain ⟨T270, X270, e270, st270⟩ := getF X269 hx hZ hown (host := "") (Or.inl (own_h hw 55 rfl)) Via.refl e269 F_value_a1 (g := (mkF m 7 #[rv a1, iv (Int32.ofNat (cnt)), rv a2] [(.ref a1), (.ref a2)])) rfl rfl (hb hby d13_7)
  refine own_by st270 ?_
  refine own_gk (XS.iloadN X270.here hx rfl (hb hby d13_10) rfl) ?_
  refine own_gk (XS.aloadN X270.here hx rfl (hb hby d13_11) rfl rfl) ?_
  obtain ⟨T271, X271, e271, st271⟩ := getF X270 hx hZ hown (host := "") (Or.inl (own_h hw 57 rfl)) Via.refl e270 F_coder_a1 (g := (mkF m 12 #[rv a1, iv (Int32.ofNat (cnt)), rv a2] [(.ref a1), (.int (Int32.ofNat (cnt))), (.ref va), (.ref a2)])) rfl rfl (hb hby d13_12)
  refine own_by st271 ?_
  obtain ⟨_, T272, Lc272, X272, hQ272, st272⟩ := own_callV X271 hx hZ E_a2 hown (own_h hw 89 rfl) (own_h hw 90 rfl) (notFace_of_selects (args := #[]) (mvT hZ (own_h hw 92 rfl))) (own_h hw 92 rfl) (own_h hw 91 rfl) (own_h hw 7 rfl) (own_h hw 93 rfl) (by decide) (rmgb_00 l Z a0 hw [] a2 v2 k2 n ds va kv cc f cnt h0 n0 Z0 E_a2 F_value_a2 F_coder_a2 V_v2 V_va g_va (Ne.symm nev) (by omega) (by omega) O0 hST) (W := 0) (by decide) (by decide) (g := (mkF m 15 #[rv a1, iv (Int32.ofNat (cnt)), rv a2] [(.int (0 : Int32)), (.int (Int32.ofNat (cnt))), (.ref va), (.ref a2)])) rfl (by rw [hml]; rfl) (argsL := [(.ref va), (.int (Int32.ofNat (cnt))), (.int (0 : Int32))]) (rest := []) (lenOf pd__28__5b_BIB_29_V rfl) rfl (Nat.le_of_eq rfl) (hb hby d13_15) rfl e271 (by decide) (by decide)
  refine own_go st272 ?_
  obtain ⟨rfl, Nq272, K272, r272_0⟩ := hQ272
  have Od272 := O0.keep K272 (allS g_va all0)
  have E_a1_272 := E_a1.keep K272
  have F_value_a1_272 := F_value_a1.keep K272 (ninS (Exa.neArv E_a1 V_va (own_h hw 42 rfl)) nin0)
  have F_count_a1_272 := F_count_a1.keep K272 (ninS (Exa.neArv E_a1 V_va (own_h hw 42 rfl)) nin0)
  have F_coder_a1_272 := F_coder_a1.keep K272 (ninS (Exa.neArv E_a1 V_va (own_h hw 42 rfl)) nin0)
  have F_maybeLatin1_a1_272 := F_maybeLatin1_a1.keep K272 (ninS (Exa.neArv E_a1 V_va (own_h hw 42 rfl)) nin0)
  have E_a2_272 := E_a2.keep K272
  have F_value_a2_272 := F_value_a2.keep K272 (ninS (Exa.neArv E_a2 V_va (own_h hw 6 rfl)) nin0)
  have F_coder_a2_272 := F_coder_a2.keep K272 (ninS (Exa.neArv E_a2 V_va (own_h hw 6 rfl)) nin0)
  have V_v2_272 := V_v2.keep K272 (ninS (Ne.symm nev) nin0)
  have Z272 : n0 ≤ T272.heap.size := Nat.le_trans Z0 K272.1
  have Kt272 := Kz.trans K272 (allS (P := fun x => x ∈ _ ∨ _ ≤ x) (Or.inl (List.mem_of_getElem? (i := 0) rfl)) all0)
  have N272 := Fr.app N269 Nq272
  show own_Fin _ _ _ _ (T272.setTop (mkF m 18 #[rv a1, iv (Int32.ofNat (cnt)), rv a2] []))
  obtain ⟨fs273, hr273, hrun273, hended273, hW273, hsame273⟩ := X272.leave (v := none) (fun _ => rfl)
  refine own_done (X272.returnOut hx hrt (hb hby d13_18) hr273) hrun273 hended273 ⟨_, _, rfl, ?_, ⟨_, rfl⟩, hW273, hsame273.mono (by decide) (by decide)⟩
  show Qpst_00 Z a1 va kv cc cnt f cs a2 v2 k2 n ds h0 n0 _ T272.heap _
  exact ⟨rfl, N272, Kt272, r272_0⟩
theorem ef_RR_3 (m : MethodId) (x0 : Addr) (x1 : Addr) : entryFrame m #[(.ref x0), (.ref x1)] 3 = mkF m 0 #[.val (.ref x0), .val (.ref x1), .unset] [] := by first | (simp [entryFrame, mkF, argsToLocals, Value.category]; done) | rfl
def Qap_00 (Z : State) (a1 : Addr) (va : Addr) (kv : ClassId) (cc : Nat) (cnt : Nat) (f : Nat → Int32) (cs : Nat → Int32) (a2 : Addr) (v2 : Addr) (k2 : ClassId) (n : Nat) (ds : Nat → Int32) (h0 : Heap) (n0 : Nat) (v : Option Value) (h : Heap) (L : List Loc) : Prop := ∃ (vb : Jvm.Addr) (kb : ClassId) (fb : Nat → Int32), v = some (.ref a1) ∧ Fr n0 L ∧ Keep h0 h [a1, va] ∧ Exa Z h a1 "java/lang/StringBuilder" ∧ Fld Z h a1 "java/lang/AbstractStringBuilder" "value" "[B" (.ref vb) ∧ Fld Z h a1 "java/lang/AbstractStringBuilder" "count" "I" (.int (Int32.ofNat (cnt + n))) ∧ Fld Z h a1 "java/lang/AbstractStringBuilder" "coder" "B" (.int (0 : Int32)) ∧ Fld Z h a1 "java/lang/AbstractStringBuilder" "maybeLatin1" "Z" (.int (0 : Int32)) ∧ Arv Z h vb kb .byte (Int32.ofNat (own_cap cc (cnt + n))) (List.map Value.int (own_R fb (own_cap cc (cnt + n)))) (.int (0 : Int32)) ∧ (∀ j, j < cnt + n → fb j = own_lo (own_app cs cnt ds) j) ∧ n0 ≤ vb ∧ (vb = va ∨ h0.size ≤ vb)
theorem d11_0 : decode jdk_68_method_22_code 0 = .ok (.aload_n 1, 1) := by decide +kernel
theorem d11_1 : decode jdk_68_method_22_code 1 = .ok (.ifnonnull 8, 3) := by decide +kernel
theorem d11_9 : decode jdk_68_method_22_code 9 = .ok (.aload_n 1, 1) := by decide +kernel
theorem d11_10 : decode jdk_68_method_22_code 10 = .ok (.invokevirtual 32, 3) := by decide +kernel
theorem d11_13 : decode jdk_68_method_22_code 13 = .ok (.istore_n 2, 1) := by decide +kernel
theorem d11_14 : decode jdk_68_method_22_code 14 = .ok (.aload_n 0, 1) := by decide +kernel
theorem d11_15 : decode jdk_68_method_22_code 15 = .ok (.aload_n 0, 1) := by decide +kernel
theorem d11_16 : decode jdk_68_method_22_code 16 = .ok (.getfield 79, 3) := by decide +kernel
theorem d11_19 : decode jdk_68_method_22_code 19 = .ok (.iload_n 2, 1) := by decide +kernel
theorem d11_20 : decode jdk_68_method_22_code 20 = .ok (.iadd, 1) := by decide +kernel
theorem d11_21 : decode jdk_68_method_22_code 21 = .ok (.invokevirtual 100, 3) := by decide +kernel
theorem d11_24 : decode jdk_68_method_22_code 24 = .ok (.aload_n 0, 1) := by decide +kernel
theorem d11_25 : decode jdk_68_method_22_code 25 = .ok (.aload_n 0, 1) := by decide +kernel
theorem d11_26 : decode jdk_68_method_22_code 26 = .ok (.getfield 79, 3) := by decide +kernel
theorem d11_29 : decode jdk_68_method_22_code 29 = .ok (.aload_n 1, 1) := by decide +kernel
theorem d11_30 : decode jdk_68_method_22_code 30 = .ok (.invokevirtual 208, 3) := by decide +kernel
theorem pd__28_ILjava_2f_lang_2f_String_3b__29_V : parseMethodDescriptor "(ILjava/lang/String;)V" = some ⟨[.int, (.object "java/lang/String")], none⟩ := by decide +kernel
theorem d11_33 : decode jdk_68_method_22_code 33 = .ok (.aload_n 0, 1) := by decide +kernel
theorem d11_34 : decode jdk_68_method_22_code 34 = .ok (.dup, 1) := by decide +kernel
theorem d11_35 : decode jdk_68_method_22_code 35 = .ok (.getfield 79, 3) := by decide +kernel
theorem d11_38 : decode jdk_68_method_22_code 38 = .ok (.iload_n 2, 1) := by decide +kernel
theorem d11_39 : decode jdk_68_method_22_code 39 = .ok (.iadd, 1) := by decide +kernel
theorem d11_40 : decode jdk_68_method_22_code 40 = .ok (.putfield 79, 3) := by decide +kernel
theorem d11_43 : decode jdk_68_method_22_code 43 = .ok (.aload_n 0, 1) := by decide +kernel
theorem d11_44 : decode jdk_68_method_22_code 44 = .ok (.areturn, 1) := by decide +kernel
set_option maxRecDepth 65536 in
set_option maxHeartbeats 40000000 in
theorem rmap_00 (l : Launch) (Z : State) (a0 : Array Value) (hw : ∀ d ∈ tables_1, d.before a0 Z = true) (ws : List Jvm.Cond) (a1 : Addr) (va : Addr) (kv : ClassId) (cc : Nat) (cnt : Nat) (f : Nat → Int32) (cs : Nat → Int32) (a2 : Addr) (v2 : Addr) (k2 : ClassId) (n : Nat) (ds : Nat → Int32) (h0 : Heap) (n0 : Nat) (Z0 : n0 ≤ h0.size) (E_a1 : Exa Z h0 a1 "java/lang/StringBuilder") (F_value_a1 : Fld Z h0 a1 "java/lang/AbstractStringBuilder" "value" "[B" (.ref va)) (F_count_a1 : Fld Z h0 a1 "java/lang/AbstractStringBuilder" "count" "I" (.int (Int32.ofNat (cnt)))) (F_coder_a1 : Fld Z h0 a1 "java/lang/AbstractStringBuilder" "coder" "B" (.int (0 : Int32))) (F_maybeLatin1_a1 : Fld Z h0 a1 "java/lang/AbstractStringBuilder" "maybeLatin1" "Z" (.int (0 : Int32))) (V_va : Arv Z h0 va kv .byte (Int32.ofNat (cc)) (List.map Value.int (own_R f cc)) (.int (0 : Int32))) (g_a1 : n0 ≤ a1) (g_va : n0 ≤ va) (E_a2 : Exa Z h0 a2 "java/lang/String") (F_value_a2 : Fld Z h0 a2 "java/lang/String" "value" "[B" (.ref v2)) (F_coder_a2 : Fld Z h0 a2 "java/lang/String" "coder" "B" (.int (0 : Int32))) (V_v2 : Arv Z h0 v2 k2 .byte (Int32.ofNat (n)) (List.map Value.int (own_R (own_lo ds) n)) (.int (0 : Int32))) (nev : va ≠ v2) (O0 : own_Old Z n0 h0) (hST : own_ST Z) (hf : ∀ j, j < cnt → f j = own_lo cs j) (hch : ∀ j, own_ch (cs j)) (hcl : ∀ j, j < cnt → ¬ (255 : Int32) < cs j) (hdc : ∀ j, own_ch (ds j)) (hdl : ∀ j, j < n → ¬ (255 : Int32) < ds j) (hcn : cnt ≤ cc) (hcc : 16 ≤ cc) (hc2 : cc ≤ 90) (hsum : cnt + n ≤ 64) (hcap : own_cap cc (cnt + n) ≤ 128) : own_Met l own_y11 jdk_68_method_22_code 3 (some (.object "java/lang/AbstractStringBuilder")) ws ⟨4, 1, 256, 69⟩ #[(.ref a1), (.ref a2)] Z h0 (Qap_00 Z a1 va kv cc cnt f cs a2 v2 k2 n ds h0 n0) := by
  refine own_met (plainFor_of_name pn_java_lang_AbstractStringBuilder) (fun p e s m below meth c s₁ hx hby hml hrt hlk hZ hown hnm X0 e0 es0 => ?_)
  have N0 := Fr.nil n0
  rw [ef_RR_3 m a1 a2]
  have Kz := Keep.refl h0 [a1, va]
  by_cases hg : cnt + n ≤ cc
  · rw [own_capN hg] at hcap
    refine own_gk (XS.aloadN X0.here hx rfl (hb hby d11_0) rfl rfl) ?_
    refine own_gk (XS.ifnonnullYes X0.here hx rfl (pc0 := 1) (pc' := 9) rfl (hb hby d11_1) rfl (by decide) (by decide)) ?_
    refine own_gk (XS.aloadN X0.here hx rfl (hb hby d11_9) rfl rfl) ?_
    obtain ⟨_, T274, Lc274, X274, hQ274, st274⟩ := own_callV X0 hx hZ E_a2 hown (own_h hw 70 rfl) (own_h hw 31 rfl) (notFace_of_selects (args := #[]) (mvT hZ (own_h hw 33 rfl))) (own_h hw 33 rfl) (own_h hw 32 rfl) (own_h hw 7 rfl) (own_h hw 34 rfl) (by decide) (rmlenL l Z a0 hw [] a2 v2 k2 (own_lo ds) n h0 n0 Z0 E_a2 F_value_a2 F_coder_a2 V_v2 O0 hST (by omega)) (W := 0) (by decide) (by decide) (g := (mkF m 10 #[rv a1, rv a2, .unset] [(.ref a2)])) rfl (by rw [hml]; rfl) (argsL := []) (rest := []) (lenOf pd__28__29_I rfl) rfl (Nat.le_of_eq rfl) (hb hby d11_10) rfl e0 (by decide) (by decide)
    obtain ⟨rfl, Nq274, e274⟩ := hQ274
    refine own_go st274 ?_
    have N274 := Fr.app N0 Nq274
    show own_Fin _ _ _ _ (T274.setTop (mkF m 13 #[rv a1, rv a2, .unset] [(.int (Int32.ofNat (n)))]))
    refine own_gk (XS.istoreN X274.here hx rfl (hb hby d11_13) rfl rfl) ?_
    refine own_gk (XS.aloadN X274.here hx rfl (hb hby d11_14) rfl rfl) ?_
    refine own_gk (XS.aloadN X274.here hx rfl (hb hby d11_15) rfl rfl) ?_
    obtain ⟨T275, X275, e275, st275⟩ := getF X274 hx hZ hown (host := "") (Or.inl (own_h hw 71 rfl)) Via.refl e274 F_count_a1 (g := (mkF m 16 #[rv a1, rv a2, iv (Int32.ofNat (n))] [(.ref a1), (.ref a1)])) rfl rfl (hb hby d11_16)
    refine own_by st275 ?_
    refine own_gk (XS.iloadN X275.here hx rfl (hb hby d11_19) rfl) ?_
    show own_Fin _ _ _ _ (T275.setTop (mkF m 20 #[rv a1, rv a2, iv (Int32.ofNat (n))] [(.int (Int32.ofNat (n))), (.int (Int32.ofNat (cnt))), (.ref a1)]))
    refine own_gk (XS.iadd X275.here hx rfl (hb hby d11_20) rfl) ?_
    show own_Fin _ _ _ _ (T275.setTop (mkF m 21 #[rv a1, rv a2, iv (Int32.ofNat (n))] [(.int ((Int32.ofNat (cnt)) + (Int32.ofNat (n)))), (.ref a1)]))
    rw [show ((Int32.ofNat (cnt)) + (Int32.ofNat (n))) = Int32.ofNat (cnt + n) from (own_addN cnt n)]
    obtain ⟨cq276, q276, q276'⟩ := E_a1.cell
    obtain ⟨_, _, ⟨T276, L276, k276, n276⟩, -, X276, ⟨Lc276, hQ276, l276, y276, z276⟩, st276⟩ := X275.privateBack hx (y := own_y12) hown (mvT hZ (own_h hw 73 rfl)) (mvT hZ (own_h hw 74 rfl)) (own_privSel (mvT hZ (own_h hw 74 rfl)) (mvT hZ (own_h hw 76 rfl)) (Cond.privateMethod_at (mvP hZ (own_h hw 75 rfl) (args := #[]))) (by decide)) (Cond.privateMethod_at (mvP hZ (own_h hw 75 rfl) (args := #[]))) (mvT hZ (own_h hw 77 rfl)) (by decide) (backOf (W := 0) (rmecN_0 l Z a0 hw [] a1 va kv cc cnt f (cnt + n) h0 n0 Z0 E_a1 F_value_a1 F_count_a1 F_coder_a1 F_maybeLatin1_a1 V_va g_a1 g_va hcc hc2 (by omega) (by omega)) hZ (own_h hw 77 rfl) (own_h hw 51 rfl) (by decide) (by decide)) (g := (mkF m 21 #[rv a1, rv a2, iv (Int32.ofNat (n))] [(.int (Int32.ofNat (cnt + n))), (.ref a1)])) rfl (by rw [hml]; rfl) (Steps.refl _) (a := a1) (by rw [e275]; exact q276) q276' (argsL := [(.int (Int32.ofNat (cnt + n)))]) (rest := []) (lenOf pd__28_I_29_V rfl) rfl (by show 2 * 0 + _ ≤ _; exact Nat.le_of_eq rfl) (hb hby d11_21) (fun _ hv => ⟨rfl, e275, (by decide : 0 + 0 ≤ _), (by decide : 0 + 0 ≤ _)⟩)
    dsimp only [Pt.U, Pt.locs, Pt.cells, Pt.slots] at X276 l276 y276 z276 st276 hQ276
    subst l276 y276 z276
    obtain ⟨rfl, Nq276, e276⟩ := hQ276
    refine own_go st276 ?_
    have N276 := Fr.app N274 Nq276
    refine own_gk (XS.aloadN X276.here hx rfl (hb hby d11_24) rfl rfl) ?_
    refine own_gk (XS.aloadN X276.here hx rfl (hb hby d11_25) rfl rfl) ?_
    obtain ⟨T277, X277, e277, st277⟩ := getF X276 hx hZ hown (host := "") (Or.inl (own_h hw 71 rfl)) Via.refl e276 F_count_a1 (g := (mkF m 26 #[rv a1, rv a2, iv (Int32.ofNat (n))] [(.ref a1), (.ref a1)])) rfl rfl (hb hby d11_26)
    refine own_by st277 ?_
    show own_Fin _ _ _ _ (T277.setTop (mkF m 29 #[rv a1, rv a2, iv (Int32.ofNat (n))] [(.int (Int32.ofNat (cnt))), (.ref a1)]))
    refine own_gk (XS.aloadN X277.here hx rfl (hb hby d11_29) rfl rfl) ?_
    obtain ⟨cq278, q278, q278'⟩ := E_a1.cell
    obtain ⟨_, _, ⟨T278, L278, k278, n278⟩, -, X278, ⟨Lc278, hQ278, l278, y278, z278⟩, st278⟩ := X277.privateBack hx (y := own_y13) hown (mvT hZ (own_h hw 78 rfl)) (mvT hZ (own_h hw 79 rfl)) (own_privSel (mvT hZ (own_h hw 79 rfl)) (mvT hZ (own_h hw 81 rfl)) (Cond.privateMethod_at (mvP hZ (own_h hw 80 rfl) (args := #[]))) (by decide)) (Cond.privateMethod_at (mvP hZ (own_h hw 80 rfl) (args := #[]))) (mvT hZ (own_h hw 82 rfl)) (by decide) (backOf (W := 0) (rmpst_00 l Z a0 hw [] a1 va kv cc cnt f cs a2 v2 k2 n ds h0 n0 Z0 E_a1 F_value_a1 F_count_a1 F_coder_a1 F_maybeLatin1_a1 V_va g_a1 g_va E_a2 F_value_a2 F_coder_a2 V_v2 nev O0 hST (by omega) (by omega)) hZ (own_h hw 82 rfl) (own_h hw 51 rfl) (by decide) (by decide)) (g := (mkF m 30 #[rv a1, rv a2, iv (Int32.ofNat (n))] [(.ref a2), (.int (Int32.ofNat (cnt))), (.ref a1)])) rfl (by rw [hml]; rfl) (Steps.refl _) (a := a1) (by rw [e277]; exact q278) q278' (argsL := [(.int (Int32.ofNat (cnt))), (.ref a2)]) (rest := []) (lenOf pd__28_ILjava_2f_lang_2f_String_3b__29_V rfl) rfl (by show 2 * 0 + _ ≤ _; exact Nat.le_of_eq rfl) (hb hby d11_30) (fun _ hv => ⟨rfl, e277, (by decide : 0 + 0 ≤ _), (by decide : 0 + 0 ≤ _)⟩)
    dsimp only [Pt.U, Pt.locs, Pt.cells, Pt.slots] at X278 l278 y278 z278 st278 hQ278
    subst l278 y278 z278
    refine own_go st278 ?_
    obtain ⟨rfl, Nq278, K278, r278_0⟩ := hQ278
    have Od278 := O0.keep K278 (allS g_va all0)
    have E_a1_278 := E_a1.keep K278
    have F_value_a1_278 := F_value_a1.keep K278 (ninS (Exa.neArv E_a1 V_va (own_h hw 42 rfl)) nin0)
    have F_count_a1_278 := F_count_a1.keep K278 (ninS (Exa.neArv E_a1 V_va (own_h hw 42 rfl)) nin0)
    have F_coder_a1_278 := F_coder_a1.keep K278 (ninS (Exa.neArv E_a1 V_va (own_h hw 42 rfl)) nin0)
    have F_maybeLatin1_a1_278 := F_maybeLatin1_a1.keep K278 (ninS (Exa.neArv E_a1 V_va (own_h hw 42 rfl)) nin0)
    have E_a2_278 := E_a2.keep K278
    have F_value_a2_278 := F_value_a2.keep K278 (ninS (Exa.neArv E_a2 V_va (own_h hw 6 rfl)) nin0)
    have F_coder_a2_278 := F_coder_a2.keep K278 (ninS (Exa.neArv E_a2 V_va (own_h hw 6 rfl)) nin0)
    have V_v2_278 := V_v2.keep K278 (ninS (Ne.symm nev) nin0)
    have Z278 : n0 ≤ T278.heap.size := Nat.le_trans Z0 K278.1
    have Kt278 := Kz.trans K278 (allS (P := fun x => x ∈ _ ∨ _ ≤ x) (Or.inl (List.mem_of_getElem? (i := 1) rfl)) all0)
    have N278 := Fr.app N276 Nq278
    refine own_gk (XS.aloadN X278.here hx rfl (hb hby d11_33) rfl rfl) ?_
    refine own_gk (XS.dup X278.here hx rfl (hb hby d11_34) rfl rfl) ?_
    obtain ⟨T279, X279, e279, st279⟩ := getF X278 hx hZ hown (host := "") (Or.inl (own_h hw 71 rfl)) Via.refl rfl F_count_a1_278 (g := (mkF m 35 #[rv a1, rv a2, iv (Int32.ofNat (n))] [(.ref a1), (.ref a1)])) rfl rfl (hb hby d11_35)
    refine own_by st279 ?_
    show own_Fin _ _ _ _ (T279.setTop (mkF m 38 #[rv a1, rv a2, iv (Int32.ofNat (n))] [(.int (Int32.ofNat (cnt))), (.ref a1)]))
    refine own_gk (XS.iloadN X279.here hx rfl (hb hby d11_38) rfl) ?_
    refine own_gk (XS.iadd X279.here hx rfl (hb hby d11_39) rfl) ?_
    show own_Fin _ _ _ _ (T279.setTop (mkF m 40 #[rv a1, rv a2, iv (Int32.ofNat (n))] [(.int ((Int32.ofNat (cnt)) + (Int32.ofNat (n)))), (.ref a1)]))
    rw [show ((Int32.ofNat (cnt)) + (Int32.ofNat (n))) = Int32.ofNat (cnt + n) from (own_addN cnt n)]
    obtain ⟨T280, h280, X280, e280, W280, st280⟩ := putF X279 hx hZ hown (host := "") (Or.inl (own_h hw 71 rfl)) Via.refl e279 F_count_a1_278 E_a1_278 (Or.inl (own_h hw 72 rfl)) (own_h hw 42 rfl) (ty := .int) (by decide) rfl rfl (g := (mkF m 40 #[rv a1, rv a2, iv (Int32.ofNat (n))] [(.int (Int32.ofNat (cnt + n))), (.ref a1)])) rfl rfl (hb hby d11_40)
    refine own_by st280 ?_
    have F_count_a1_280 := F_count_a1_278.same W280
    have Od280 := Od278.wr W280 g_a1
    have E_a1_280 := E_a1_278.wr W280
    have F_value_a1_280 := F_value_a1_278.other W280 (Or.inr (slot_ne (Or.inl (own_h hw 56 rfl)) (Or.inl (own_h hw 72 rfl)) (by decide) (t := (.array .byte)) (t' := .int) (by decide) (by decide)))
    have F_coder_a1_280 := F_coder_a1_278.other W280 (Or.inr (slot_ne (Or.inl (own_h hw 58 rfl)) (Or.inl (own_h hw 72 rfl)) (by decide) (t := .byte) (t' := .int) (by decide) (by decide)))
    have F_maybeLatin1_a1_280 := F_maybeLatin1_a1_278.other W280 (Or.inr (slot_ne (Or.inl (own_h hw 262 rfl)) (Or.inl (own_h hw 72 rfl)) (by decide) (t := .boolean) (t' := .int) (by decide) (by decide)))
    have E_a2_280 := E_a2_278.wr W280
    have F_value_a2_280 := F_value_a2_278.other W280 (Or.inl (Exa.ne E_a2_278 E_a1_278 (by decide)))
    have F_coder_a2_280 := F_coder_a2_278.other W280 (Or.inl (Exa.ne E_a2_278 E_a1_278 (by decide)))
    have V_v2_280 := V_v2_278.other W280 (Ne.symm (Exa.neArv E_a1_278 V_v2_278 (own_h hw 42 rfl)))
    have r278_0_280 := r278_0.other W280 (Ne.symm (Exa.neArv E_a1_278 r278_0 (own_h hw 42 rfl)))
    have N280 := Fr.snoc X280 N278 g_a1
    have Z280 : n0 ≤ h280.size := Nat.le_trans Z278 (Keep.of_wr W280).1
    have K280 := Kt278.wr W280 (Or.inl (List.mem_of_getElem? (i := 0) rfl))
    refine own_gk (XS.aloadN X280.here hx rfl (hb hby d11_43) rfl rfl) ?_
    obtain ⟨fs281, hr281, hrun281, hended281, hW281, hsame281⟩ := X280.leave (v := some (.ref a1)) (fun h => by rw [hrt] at h; cases h)
    refine own_done (retOut X280 hx hrt rfl (Or.inr (Or.inr (Or.inr (Or.inr ⟨rfl, rfl, rfl⟩)))) (hb hby d11_44) hr281) hrun281 hended281 ⟨_, _, rfl, ?_, ⟨_, rfl⟩, hW281, hsame281.mono (by decide) (by decide)⟩
    show Qap_00 Z a1 va kv cc cnt f cs a2 v2 k2 n ds h0 n0 _ T280.heap _
    rw [e280]
    exact ⟨va, kv, (own_cpf f (own_lo ds) cnt 0 n), rfl, N280, K280, E_a1_280, F_value_a1_280, F_count_a1_280, F_coder_a1_280, F_maybeLatin1_a1_280, (by rw [own_capN hg]; exact r278_0_280), (own_appL hf), g_va, (Or.inl rfl)⟩
  · rw [own_capG hg] at hcap
    refine own_gk (XS.aloadN X0.here hx rfl (hb hby d11_0) rfl rfl) ?_
    refine own_gk (XS.ifnonnullYes X0.here hx rfl (pc0 := 1) (pc' := 9) rfl (hb hby d11_1) rfl (by decide) (by decide)) ?_
    refine own_gk (XS.aloadN X0.here hx rfl (hb hby d11_9) rfl rfl) ?_
    obtain ⟨_, T282, Lc282, X282, hQ282, st282⟩ := own_callV X0 hx hZ E_a2 hown (own_h hw 70 rfl) (own_h hw 31 rfl) (notFace_of_selects (args := #[]) (mvT hZ (own_h hw 33 rfl))) (own_h hw 33 rfl) (own_h hw 32 rfl) (own_h hw 7 rfl) (own_h hw 34 rfl) (by decide) (rmlenL l Z a0 hw [] a2 v2 k2 (own_lo ds) n h0 n0 Z0 E_a2 F_value_a2 F_coder_a2 V_v2 O0 hST (by omega)) (W := 0) (by decide) (by decide) (g := (mkF m 10 #[rv a1, rv a2, .unset] [(.ref a2)])) rfl (by rw [hml]; rfl) (argsL := []) (rest := []) (lenOf pd__28__29_I rfl) rfl (Nat.le_of_eq rfl) (hb hby d11_10) rfl e0 (by decide) (by decide)
    obtain ⟨rfl, Nq282, e282⟩ := hQ282
    refine own_go st282 ?_
    have N282 := Fr.app N0 Nq282
    show own_Fin _ _ _ _ (T282.setTop (mkF m 13 #[rv a1, rv a2, .unset] [(.int (Int32.ofNat (n)))]))
    refine own_gk (XS.istoreN X282.here hx rfl (hb hby d11_13) rfl rfl) ?_
    refine own_gk (XS.aloadN X282.here hx rfl (hb hby d11_14) rfl rfl) ?_
    refine own_gk (XS.aloadN X282.here hx rfl (hb hby d11_15) rfl rfl) ?_
    obtain ⟨T283, X283, e283, st283⟩ := getF X282 hx hZ hown (host := "") (Or.inl (own_h hw 71 rfl)) Via.refl e282 F_count_a1 (g := (mkF m 16 #[rv a1, rv a2, iv (Int32.ofNat (n))] [(.ref a1), (.ref a1)])) rfl rfl (hb hby d11_16)
    refine own_by st283 ?_
    refine own_gk (XS.iloadN X283.here hx rfl (hb hby d11_19) rfl) ?_
    show own_Fin _ _ _ _ (T283.setTop (mkF m 20 #[rv a1, rv a2, iv (Int32.ofNat (n))] [(.int (Int32.ofNat (n))), (.int (Int32.ofNat (cnt))), (.ref a1)]))
    refine own_gk (XS.iadd X283.here hx rfl (hb hby d11_20) rfl) ?_
    show own_Fin _ _ _ _ (T283.setTop (mkF m 21 #[rv a1, rv a2, iv (Int32.ofNat (n))] [(.int ((Int32.ofNat (cnt)) + (Int32.ofNat (n)))), (.ref a1)]))
    rw [show ((Int32.ofNat (cnt)) + (Int32.ofNat (n))) = Int32.ofNat (cnt + n) from (own_addN cnt n)]
    obtain ⟨cq284, q284, q284'⟩ := E_a1.cell
    obtain ⟨_, _, ⟨T284, L284, k284, n284⟩, -, X284, ⟨Lc284, hQ284, l284, y284, z284⟩, st284⟩ := X283.privateBack hx (y := own_y12) hown (mvT hZ (own_h hw 73 rfl)) (mvT hZ (own_h hw 74 rfl)) (own_privSel (mvT hZ (own_h hw 74 rfl)) (mvT hZ (own_h hw 76 rfl)) (Cond.privateMethod_at (mvP hZ (own_h hw 75 rfl) (args := #[]))) (by decide)) (Cond.privateMethod_at (mvP hZ (own_h hw 75 rfl) (args := #[]))) (mvT hZ (own_h hw 77 rfl)) (by decide) (backOf (W := 0) (rmecG_0 l Z a0 hw [] a1 va kv cc cnt f (cnt + n) h0 n0 Z0 E_a1 F_value_a1 F_count_a1 F_coder_a1 F_maybeLatin1_a1 V_va g_a1 g_va hcc hc2 (by omega) (by omega) (by omega)) hZ (own_h hw 77 rfl) (own_h hw 51 rfl) (by decide) (by decide)) (g := (mkF m 21 #[rv a1, rv a2, iv (Int32.ofNat (n))] [(.int (Int32.ofNat (cnt + n))), (.ref a1)])) rfl (by rw [hml]; rfl) (Steps.refl _) (a := a1) (by rw [e283]; exact q284) q284' (argsL := [(.int (Int32.ofNat (cnt + n)))]) (rest := []) (lenOf pd__28_I_29_V rfl) rfl (by show 2 * 0 + _ ≤ _; exact Nat.le_of_eq rfl) (hb hby d11_21) (fun _ hv => ⟨rfl, e283, (by decide : 0 + 1 ≤ _), (by decide : 0 + 256 ≤ _)⟩)
    dsimp only [Pt.U, Pt.locs, Pt.cells, Pt.slots] at X284 l284 y284 z284 st284 hQ284
    subst l284 y284 z284
    refine own_go st284 ?_
    obtain ⟨vb_284, kb_284, rfl, Nq284, K284, g_vb_284, sb_vb_284, r284_0, r284_1, r284_2, r284_3, r284_4, r284_5⟩ := hQ284
    have ne_a1_vb_284 : a1 ≠ vb_284 := Nat.ne_of_lt (Nat.lt_of_lt_of_le E_a1.lt sb_vb_284)
    have ne_va_vb_284 : va ≠ vb_284 := Nat.ne_of_lt (Nat.lt_of_lt_of_le V_va.lt sb_vb_284)
    have ne_a2_vb_284 : a2 ≠ vb_284 := Nat.ne_of_lt (Nat.lt_of_lt_of_le E_a2.lt sb_vb_284)
    have ne_v2_vb_284 : v2 ≠ vb_284 := Nat.ne_of_lt (Nat.lt_of_lt_of_le V_v2.lt sb_vb_284)
    have sz_vb_284 : h0.size ≤ vb_284 := Nat.le_trans Kz.1 sb_vb_284
    have Od284 := O0.keep K284 (allS g_a1 all0)
    have E_a1_284 := E_a1.keep K284
    have V_va_284 := V_va.keep K284 (ninS (Ne.symm (Exa.neArv E_a1 V_va (own_h hw 42 rfl))) nin0)
    have E_a2_284 := E_a2.keep K284
    have F_value_a2_284 := F_value_a2.keep K284 (ninS (Exa.ne E_a2 E_a1 (by decide)) nin0)
    have F_coder_a2_284 := F_coder_a2.keep K284 (ninS (Exa.ne E_a2 E_a1 (by decide)) nin0)
    have V_v2_284 := V_v2.keep K284 (ninS (Ne.symm (Exa.neArv E_a1 V_v2 (own_h hw 42 rfl))) nin0)
    have Z284 : n0 ≤ T284.heap.size := Nat.le_trans Z0 K284.1
    have Kt284 := Kz.trans K284 (allS (P := fun x => x ∈ _ ∨ _ ≤ x) (Or.inl (List.mem_of_getElem? (i := 0) rfl)) all0)
    have N284 := Fr.app N282 Nq284
    refine own_gk (XS.aloadN X284.here hx rfl (hb hby d11_24) rfl rfl) ?_
    refine own_gk (XS.aloadN X284.here hx rfl (hb hby d11_25) rfl rfl) ?_
    obtain ⟨T285, X285, e285, st285⟩ := getF X284 hx hZ hown (host := "") (Or.inl (own_h hw 71 rfl)) Via.refl rfl r284_2 (g := (mkF m 26 #[rv a1, rv a2, iv (Int32.ofNat (n))] [(.ref a1), (.ref a1)])) rfl rfl (hb hby d11_26)
    refine own_by st285 ?_
    show own_Fin _ _ _ _ (T285.setTop (mkF m 29 #[rv a1, rv a2, iv (Int32.ofNat (n))] [(.int (Int32.ofNat (cnt))), (.ref a1)]))
    refine own_gk (XS.aloadN X285.here hx rfl (hb hby d11_29) rfl rfl) ?_
    obtain ⟨cq286, q286, q286'⟩ := r284_0.cell
    obtain ⟨_, _, ⟨T286, L286, k286, n286⟩, -, X286, ⟨Lc286, hQ286, l286, y286, z286⟩, st286⟩ := X285.privateBack hx (y := own_y13) hown (mvT hZ (own_h hw 78 rfl)) (mvT hZ (own_h hw 79 rfl)) (own_privSel (mvT hZ (own_h hw 79 rfl)) (mvT hZ (own_h hw 81 rfl)) (Cond.privateMethod_at (mvP hZ (own_h hw 80 rfl) (args := #[]))) (by decide)) (Cond.privateMethod_at (mvP hZ (own_h hw 80 rfl) (args := #[]))) (mvT hZ (own_h hw 82 rfl)) (by decide) (backOf (W := 0) (rmpst_00 l Z a0 hw [] a1 vb_284 kb_284 (max (cnt + n) (2 * cc + 2)) cnt (own_cpf (fun _ => (0 : Int32)) f 0 0 cc) cs a2 v2 k2 n ds T284.heap n0 Z284 r284_0 r284_1 r284_2 r284_3 r284_4 r284_5 g_a1 g_vb_284 E_a2_284 F_value_a2_284 F_coder_a2_284 V_v2_284 (Ne.symm ne_v2_vb_284) Od284 hST (by omega) (by omega)) hZ (own_h hw 82 rfl) (own_h hw 51 rfl) (by decide) (by decide)) (g := (mkF m 30 #[rv a1, rv a2, iv (Int32.ofNat (n))] [(.ref a2), (.int (Int32.ofNat (cnt))), (.ref a1)])) rfl (by rw [hml]; rfl) (Steps.refl _) (a := a1) (by rw [e285]; exact q286) q286' (argsL := [(.int (Int32.ofNat (cnt))), (.ref a2)]) (rest := []) (lenOf pd__28_ILjava_2f_lang_2f_String_3b__29_V rfl) rfl (by show 2 * 0 + _ ≤ _; exact Nat.le_of_eq rfl) (hb hby d11_30) (fun _ hv => ⟨rfl, e285, (by decide : 1 + 0 ≤ _), (by decide : 256 + 0 ≤ _)⟩)
    dsimp only [Pt.U, Pt.locs, Pt.cells, Pt.slots] at X286 l286 y286 z286 st286 hQ286
    subst l286 y286 z286
    refine own_go st286 ?_
    obtain ⟨rfl, Nq286, K286, r286_0⟩ := hQ286
    have Od286 := Od284.keep K286 (allS g_vb_284 all0)
    have r284_0_286 := r284_0.keep K286
    have V_va_286 := V_va_284.keep K286 (ninS ne_va_vb_284 nin0)
    have E_a2_286 := E_a2_284.keep K286
    have F_value_a2_286 := F_value_a2_284.keep K286 (ninS ne_a2_vb_284 nin0)
    have F_coder_a2_286 := F_coder_a2_284.keep K286 (ninS ne_a2_vb_284 nin0)
    have V_v2_286 := V_v2_284.keep K286 (ninS ne_v2_vb_284 nin0)
    have r284_1_286 := r284_1.keep K286 (ninS ne_a1_vb_284 nin0)
    have r284_2_286 := r284_2.keep K286 (ninS ne_a1_vb_284 nin0)
    have r284_3_286 := r284_3.keep K286 (ninS ne_a1_vb_284 nin0)
    have r284_4_286 := r284_4.keep K286 (ninS ne_a1_vb_284 nin0)
    have Z286 : n0 ≤ T286.heap.size := Nat.le_trans Z284 K286.1
    have Kt286 := Kt284.trans K286 (allS (P := fun x => x ∈ _ ∨ _ ≤ x) (Or.inr sz_vb_284) all0)
    have N286 := Fr.app N284 Nq286
    refine own_gk (XS.aloadN X286.here hx rfl (hb hby d11_33) rfl rfl) ?_
    refine own_gk (XS.dup X286.here hx rfl (hb hby d11_34) rfl rfl) ?_
    obtain ⟨T287, X287, e287, st287⟩ := getF X286 hx hZ hown (host := "") (Or.inl (own_h hw 71 rfl)) Via.refl rfl r284_2_286 (g := (mkF m 35 #[rv a1, rv a2, iv (Int32.ofNat (n))] [(.ref a1), (.ref a1)])) rfl rfl (hb hby d11_35)
    refine own_by st287 ?_
    show own_Fin _ _ _ _ (T287.setTop (mkF m 38 #[rv a1, rv a2, iv (Int32.ofNat (n))] [(.int (Int32.ofNat (cnt))), (.ref a1)]))
    refine own_gk (XS.iloadN X287.here hx rfl (hb hby d11_38) rfl) ?_
    refine own_gk (XS.iadd X287.here hx rfl (hb hby d11_39) rfl) ?_
    show own_Fin _ _ _ _ (T287.setTop (mkF m 40 #[rv a1, rv a2, iv (Int32.ofNat (n))] [(.int ((Int32.ofNat (cnt)) + (Int32.ofNat (n)))), (.ref a1)]))
    rw [show ((Int32.ofNat (cnt)) + (Int32.ofNat (n))) = Int32.ofNat (cnt + n) from (own_addN cnt n)]
    obtain ⟨T288, h288, X288, e288, W288, st288⟩ := putF X287 hx hZ hown (host := "") (Or.inl (own_h hw 71 rfl)) Via.refl e287 r284_2_286 r284_0_286 (Or.inl (own_h hw 72 rfl)) (own_h hw 42 rfl) (ty := .int) (by decide) rfl rfl (g := (mkF m 40 #[rv a1, rv a2, iv (Int32.ofNat (n))] [(.int (Int32.ofNat (cnt + n))), (.ref a1)])) rfl rfl (hb hby d11_40)
    refine own_by st288 ?_
    have F_count_a1_288 := r284_2_286.same W288
    have Od288 := Od286.wr W288 g_a1
    have r284_0_288 := r284_0_286.wr W288
    have V_va_288 := V_va_286.other W288 (Ne.symm (Exa.neArv r284_0_286 V_va_286 (own_h hw 42 rfl)))
    have E_a2_288 := E_a2_286.wr W288
    have F_value_a2_288 := F_value_a2_286.other W288 (Or.inl (Exa.ne E_a2_286 r284_0_286 (by decide)))
    have F_coder_a2_288 := F_coder_a2_286.other W288 (Or.inl (Exa.ne E_a2_286 r284_0_286 (by decide)))
    have V_v2_288 := V_v2_286.other W288 (Ne.symm (Exa.neArv r284_0_286 V_v2_286 (own_h hw 42 rfl)))
    have r284_1_288 := r284_1_286.other W288 (Or.inr (slot_ne (Or.inl (own_h hw 56 rfl)) (Or.inl (own_h hw 72 rfl)) (by decide) (t := (.array .byte)) (t' := .int) (by decide) (by decide)))
    have r284_3_288 := r284_3_286.other W288 (Or.inr (slot_ne (Or.inl (own_h hw 58 rfl)) (Or.inl (own_h hw 72 rfl)) (by decide) (t := .byte) (t' := .int) (by decide) (by decide)))
    have r284_4_288 := r284_4_286.other W288 (Or.inr (slot_ne (Or.inl (own_h hw 262 rfl)) (Or.inl (own_h hw 72 rfl)) (by decide) (t := .boolean) (t' := .int) (by decide) (by decide)))
    have r286_0_288 := r286_0.other W288 (Ne.symm ne_a1_vb_284)
    have N288 := Fr.snoc X288 N286 g_a1
    have Z288 : n0 ≤ h288.size := Nat.le_trans Z286 (Keep.of_wr W288).1
    have K288 := Kt286.wr W288 (Or.inl (List.mem_of_getElem? (i := 0) rfl))
    refine own_gk (XS.aloadN X288.here hx rfl (hb hby d11_43) rfl rfl) ?_
    obtain ⟨fs289, hr289, hrun289, hended289, hW289, hsame289⟩ := X288.leave (v := some (.ref a1)) (fun h => by rw [hrt] at h; cases h)
    refine own_done (retOut X288 hx hrt rfl (Or.inr (Or.inr (Or.inr (Or.inr ⟨rfl, rfl, rfl⟩)))) (hb hby d11_44) hr289) hrun289 hended289 ⟨_, _, rfl, ?_, ⟨_, rfl⟩, hW289, hsame289.mono (by decide) (by decide)⟩
    show Qap_00 Z a1 va kv cc cnt f cs a2 v2 k2 n ds h0 n0 _ T288.heap _
    rw [e288]
    exact ⟨vb_284, kb_284, (own_cpf (own_cpf (fun _ => (0 : Int32)) f 0 0 cc) (own_lo ds) cnt 0 n), rfl, N288, K288, r284_0_288, r284_1_288, F_count_a1_288, r284_3_288, r284_4_288, (by rw [own_capG hg]; exact r286_0_288), (own_appL (fun j hj => (own_cpf0 (by omega)).trans (hf j hj))), g_vb_284, (Or.inr sz_vb_284)⟩
def Qsap_00 (Z : State) (a1 : Addr) (va : Addr) (kv : ClassId) (cc : Nat) (cnt : Nat) (f : Nat → Int32) (cs : Nat → Int32) (a2 : Addr) (v2 : Addr) (k2 : ClassId) (n : Nat) (ds : Nat → Int32) (h0 : Heap) (n0 : Nat) (v : Option Value) (h : Heap) (L : List Loc) : Prop := ∃ (vb : Jvm.Addr) (kb : ClassId) (fb : Nat → Int32), v = some (.ref a1) ∧ Fr n0 L ∧ Keep h0 h [a1, va] ∧ Exa Z h a1 "java/lang/StringBuilder" ∧ Fld Z h a1 "java/lang/AbstractStringBuilder" "value" "[B" (.ref vb) ∧ Fld Z h a1 "java/lang/AbstractStringBuilder" "count" "I" (.int (Int32.ofNat (cnt + n))) ∧ Fld Z h a1 "java/lang/AbstractStringBuilder" "coder" "B" (.int (0 : Int32)) ∧ Fld Z h a1 "java/lang/AbstractStringBuilder" "maybeLatin1" "Z" (.int (0 : Int32)) ∧ Arv Z h vb kb .byte (Int32.ofNat (own_cap cc (cnt + n))) (List.map Value.int (own_R fb (own_cap cc (cnt + n)))) (.int (0 : Int32)) ∧ (∀ j, j < cnt + n → fb j = own_lo (own_app cs cnt ds) j) ∧ n0 ≤ vb ∧ (vb = va ∨ h0.size ≤ vb)
theorem d10_0 : decode jdk_67_method_7_code 0 = .ok (.aload_n 0, 1) := by decide +kernel
theorem d10_1 : decode jdk_67_method_7_code 1 = .ok (.aload_n 1, 1) := by decide +kernel
theorem d10_2 : decode jdk_67_method_7_code 2 = .ok (.invokespecial 29, 3) := by decide +kernel
theorem pd__28_Ljava_2f_lang_2f_String_3b__29_Ljava_2f_lang_2f_AbstractStringBuilder_3b_ : parseMethodDescriptor "(Ljava/lang/String;)Ljava/lang/AbstractStringBuilder;" = some ⟨[(.object "java/lang/String")], some (.object "java/lang/AbstractStringBuilder")⟩ := by decide +kernel
theorem d10_5 : decode jdk_67_method_7_code 5 = .ok (.pop, 1) := by decide +kernel
theorem d10_6 : decode jdk_67_method_7_code 6 = .ok (.aload_n 0, 1) := by decide +kernel
theorem d10_7 : decode jdk_67_method_7_code 7 = .ok (.areturn, 1) := by decide +kernel
set_option maxRecDepth 65536 in
set_option maxHeartbeats 40000000 in
theorem rmsap_00 (l : Launch) (Z : State) (a0 : Array Value) (hw : ∀ d ∈ tables_1, d.before a0 Z = true) (ws : List Jvm.Cond) (a1 : Addr) (va : Addr) (kv : ClassId) (cc : Nat) (cnt : Nat) (f : Nat → Int32) (cs : Nat → Int32) (a2 : Addr) (v2 : Addr) (k2 : ClassId) (n : Nat) (ds : Nat → Int32) (h0 : Heap) (n0 : Nat) (Z0 : n0 ≤ h0.size) (E_a1 : Exa Z h0 a1 "java/lang/StringBuilder") (F_value_a1 : Fld Z h0 a1 "java/lang/AbstractStringBuilder" "value" "[B" (.ref va)) (F_count_a1 : Fld Z h0 a1 "java/lang/AbstractStringBuilder" "count" "I" (.int (Int32.ofNat (cnt)))) (F_coder_a1 : Fld Z h0 a1 "java/lang/AbstractStringBuilder" "coder" "B" (.int (0 : Int32))) (F_maybeLatin1_a1 : Fld Z h0 a1 "java/lang/AbstractStringBuilder" "maybeLatin1" "Z" (.int (0 : Int32))) (V_va : Arv Z h0 va kv .byte (Int32.ofNat (cc)) (List.map Value.int (own_R f cc)) (.int (0 : Int32))) (g_a1 : n0 ≤ a1) (g_va : n0 ≤ va) (E_a2 : Exa Z h0 a2 "java/lang/String") (F_value_a2 : Fld Z h0 a2 "java/lang/String" "value" "[B" (.ref v2)) (F_coder_a2 : Fld Z h0 a2 "java/lang/String" "coder" "B" (.int (0 : Int32))) (V_v2 : Arv Z h0 v2 k2 .byte (Int32.ofNat (n)) (List.map Value.int (own_R (own_lo ds) n)) (.int (0 : Int32))) (nev : va ≠ v2) (O0 : own_Old Z n0 h0) (hST : own_ST Z) (hf : ∀ j, j < cnt → f j = own_lo cs j) (hch : ∀ j, own_ch (cs j)) (hcl : ∀ j, j < cnt → ¬ (255 : Int32) < cs j) (hdc : ∀ j, own_ch (ds j)) (hdl : ∀ j, j < n → ¬ (255 : Int32) < ds j) (hcn : cnt ≤ cc) (hcc : 16 ≤ cc) (hc2 : cc ≤ 90) (hsum : cnt + n ≤ 64) (hcap : own_cap cc (cnt + n) ≤ 128) : own_Met l own_y10 jdk_67_method_7_code 2 (some (.object "java/lang/StringBuilder")) ws ⟨5, 1, 256, 83⟩ #[(.ref a1), (.ref a2)] Z h0 (Qsap_00 Z a1 va kv cc cnt f cs a2 v2 k2 n ds h0 n0) := by
  refine own_met (plainFor_of_name pn_java_lang_StringBuilder) (fun p e s m below meth c s₁ hx hby hml hrt hlk hZ hown hnm X0 e0 es0 => ?_)
  have N0 := Fr.nil n0
  rw [ef_RR_2 m a1 a2]
  have Kz := Keep.refl h0 [a1, va]
  refine own_gk (XS.aloadN X0.here hx rfl (hb hby d10_0) rfl rfl) ?_
  refine own_gk (XS.aloadN X0.here hx rfl (hb hby d10_1) rfl rfl) ?_
  obtain ⟨cq290, kq290, q290a, q290b, q290c⟩ := isOf hZ e0 E_a1
  obtain ⟨_, _, ⟨T290, L290, k290, n290⟩, -, X290, ⟨Lc290, hQ290, l290, y290, z290⟩, st290⟩ := own_upBack X0 hx (x := own_y11) hown (mvT hZ (own_h hw 65 rfl)) (mvT hZ (own_h hw 66 rfl)) (mvT hZ (own_h hw 67 rfl)) (mvT hZ (own_h hw 69 rfl)) (mvT hZ (own_h hw 76 rfl)) rfl (by decide) (by decide) q290a q290c (backOf (W := 0) (rmap_00 l Z a0 hw [] a1 va kv cc cnt f cs a2 v2 k2 n ds h0 n0 Z0 E_a1 F_value_a1 F_count_a1 F_coder_a1 F_maybeLatin1_a1 V_va g_a1 g_va E_a2 F_value_a2 F_coder_a2 V_v2 nev O0 hST hf hch hcl hdc hdl hcn hcc hc2 hsum hcap) hZ (own_h hw 69 rfl) (own_h hw 51 rfl) (by decide) (by decide)) (g := (mkF m 2 #[rv a1, rv a2] [(.ref a2), (.ref a1)])) rfl (by rw [hml]; rfl) (Steps.refl _) (argsL := [(.ref a2)]) (rest := []) (lenOf pd__28_Ljava_2f_lang_2f_String_3b__29_Ljava_2f_lang_2f_AbstractStringBuilder_3b_ rfl) rfl (by show 2 * 0 + _ ≤ _; exact Nat.le_of_eq rfl) (hb hby d10_2) (fun _ hv => ⟨rfl, e0, (by decide : 0 + 1 ≤ _), (by decide : 0 + 256 ≤ _)⟩)
  dsimp only [Pt.U, Pt.locs, Pt.cells, Pt.slots] at X290 l290 y290 z290 st290 hQ290
  subst l290 y290 z290
  refine own_go st290 ?_
  obtain ⟨vb_290, kb_290, fb_290, rfl, Nq290, K290, r290_0, r290_1, r290_2, r290_3, r290_4, r290_5, r290_6, r290_7, r290_8⟩ := hQ290
  have Od290 := O0.keep K290 (allS g_a1 (allS g_va all0))
  have E_a1_290 := E_a1.keep K290
  have E_a2_290 := E_a2.keep K290
  have F_value_a2_290 := F_value_a2.keep K290 (ninS (Exa.ne E_a2 E_a1 (by decide)) (ninS (Exa.neArv E_a2 V_va (own_h hw 6 rfl)) nin0))
  have F_coder_a2_290 := F_coder_a2.keep K290 (ninS (Exa.ne E_a2 E_a1 (by decide)) (ninS (Exa.neArv E_a2 V_va (own_h hw 6 rfl)) nin0))
  have V_v2_290 := V_v2.keep K290 (ninS (Ne.symm (Exa.neArv E_a1 V_v2 (own_h hw 42 rfl))) (ninS (Ne.symm nev) nin0))
  have Z290 : n0 ≤ T290.heap.size := Nat.le_trans Z0 K290.1
  have Kt290 := Kz.trans K290 (allS (P := fun x => x ∈ _ ∨ _ ≤ x) (Or.inl (List.mem_of_getElem? (i := 0) rfl)) (allS (P := fun x => x ∈ _ ∨ _ ≤ x) (Or.inl (List.mem_of_getElem? (i := 1) rfl)) all0))
  have N290 := Fr.app N0 Nq290
  refine own_gk (XS.pop X290.here hx rfl (hb hby d10_5) rfl rfl) ?_
  refine own_gk (XS.aloadN X290.here hx rfl (hb hby d10_6) rfl rfl) ?_
  show own_Fin _ _ _ _ (T290.setTop (mkF m 7 #[rv a1, rv a2] [(.ref a1)]))
  obtain ⟨fs291, hr291, hrun291, hended291, hW291, hsame291⟩ := X290.leave (v := some (.ref a1)) (fun h => by rw [hrt] at h; cases h)
  refine own_done (retOut X290 hx hrt rfl (Or.inr (Or.inr (Or.inr (Or.inr ⟨rfl, rfl, rfl⟩)))) (hb hby d10_7) hr291) hrun291 hended291 ⟨_, _, rfl, ?_, ⟨_, rfl⟩, hW291, hsame291.mono (by decide) (by decide)⟩
  show Qsap_00 Z a1 va kv cc cnt f cs a2 v2 k2 n ds h0 n0 _ T290.heap _
  exact ⟨vb_290, kb_290, fb_290, rfl, N290, Kt290, r290_0, r290_1, r290_2, r290_3, r290_4, r290_5, r290_6, r290_7, r290_8⟩
def Qpst_10 (Z : State) (a1 : Addr) (va : Addr) (kv : ClassId) (cc : Nat) (cnt : Nat) (f : Nat → Int32) (cs : Nat → Int32) (a2 : Addr) (v2 : Addr) (k2 : ClassId) (n : Nat) (ds : Nat → Int32) (h0 : Heap) (n0 : Nat) (v : Option Value) (h : Heap) (L : List Loc) : Prop := v = none ∧ Fr n0 L ∧ Keep h0 h [va] ∧ Arv Z h va kv .byte (Int32.ofNat (2 * cc)) (List.map Value.int (own_R (own_cpf f (own_u ds) (2 * cnt) 0 (2 * n)) (2 * cc))) (.int (0 : Int32))
set_option maxRecDepth 65536 in
set_option maxHeartbeats 40000000 in
theorem rmpst_10 (l : Launch) (Z : State) (a0 : Array Value) (hw : ∀ d ∈ tables_1, d.before a0 Z = true) (ws : List Jvm.Cond) (a1 : Addr) (va : Addr) (kv : ClassId) (cc : Nat) (cnt : Nat) (f : Nat → Int32) (cs : Nat → Int32) (a2 : Addr) (v2 : Addr) (k2 : ClassId) (n : Nat) (ds : Nat → Int32) (h0 : Heap) (n0 : Nat) (Z0 : n0 ≤ h0.size) (E_a1 : Exa Z h0 a1 "java/lang/StringBuilder") (F_value_a1 : Fld Z h0 a1 "java/lang/AbstractStringBuilder" "value" "[B" (.ref va)) (F_count_a1 : Fld Z h0 a1 "java/lang/AbstractStringBuilder" "count" "I" (.int (Int32.ofNat (cnt)))) (F_coder_a1 : Fld Z h0 a1 "java/lang/AbstractStringBuilder" "coder" "B" (.int (1 : Int32))) (F_maybeLatin1_a1 : Fld Z h0 a1 "java/lang/AbstractStringBuilder" "maybeLatin1" "Z" (.int (0 : Int32))) (V_va : Arv Z h0 va kv .byte (Int32.ofNat (2 * cc)) (List.map Value.int (own_R f (2 * cc))) (.int (0 : Int32))) (g_a1 : n0 ≤ a1) (g_va : n0 ≤ va) (E_a2 : Exa Z h0 a2 "java/lang/String") (F_value_a2 : Fld Z h0 a2 "java/lang/String" "value" "[B" (.ref v2)) (F_coder_a2 : Fld Z h0 a2 "java/lang/String" "coder" "B" (.int (0 : Int32))) (V_v2 : Arv Z h0 v2 k2 .byte (Int32.ofNat (n)) (List.map Value.int (own_R (own_lo ds) n)) (.int (0 : Int32))) (nev : va ≠ v2) (O0 : own_Old Z n0 h0) (hST : own_ST Z) (hdl : ∀ j, j < n → ¬ (255 : Int32) < ds j) (hdc : ∀ j, own_ch (ds j)) (hroom : cnt + n ≤ cc) (hc2 : cc ≤ 128) : own_Met l own_y13 jdk_68_method_73_code 3 none ws ⟨6, 0, 0, 91⟩ #[(.ref a1), (.int (Int32.ofNat (cnt))), (.ref a2)] Z h0 (Qpst_10 Z a1 va kv cc cnt f cs a2 v2 k2 n ds h0 n0) := by
  refine own_met (plainFor_of_name pn_java_lang_AbstractStringBuilder) (fun p e s m below meth c s₁ hx hby hml hrt hlk hZ hown hnm X0 e0 es0 => ?_)
  have N0 := Fr.nil n0
  rw [ef_RIR_3 m a1 (Int32.ofNat (cnt)) a2]
  have Kz := Keep.refl h0 [va]
  refine own_gk (XS.aloadN X0.here hx rfl (hb hby d13_0) rfl rfl) ?_
  refine own_gk (XS.aloadN X0.here hx rfl (hb hby d13_1) rfl rfl) ?_
  obtain ⟨cq292, q292, q292'⟩ := E_a1.cell
  obtain ⟨_, _, ⟨T292, L292, k292, n292⟩, -, X292, ⟨Lc292, hQ292, l292, y292, z292⟩, st292⟩ := X0.privateBack hx (y := own_y14) hown (mvT hZ (own_h hw 83 rfl)) (mvT hZ (own_h hw 84 rfl)) (own_privSel (mvT hZ (own_h hw 84 rfl)) (mvT hZ (own_h hw 86 rfl)) (Cond.privateMethod_at (mvP hZ (own_h hw 85 rfl) (args := #[]))) (by decide)) (Cond.privateMethod_at (mvP hZ (own_h hw 85 rfl) (args := #[]))) (mvT hZ (own_h hw 87 rfl)) (by decide) (backOf (W := 0) (rmiin_10 l Z a0 hw [] a1 a2 h0 n0 Z0 E_a1 F_coder_a1 E_a2 F_coder_a2 O0 hST) hZ (own_h hw 87 rfl) (own_h hw 51 rfl) (by decide) (by decide)) (g := (mkF m 2 #[rv a1, iv (Int32.ofNat (cnt)), rv a2] [(.ref a2), (.ref a1)])) rfl (by rw [hml]; rfl) (Steps.refl _) (a := a1) (by rw [e0]; exact q292) q292' (argsL := [(.ref a2)]) (rest := []) (lenOf pd__28_Ljava_2f_lang_2f_String_3b__29_V rfl) rfl (by show 2 * 0 + _ ≤ _; exact Nat.le_of_eq rfl) (hb hby d13_2) (fun _ hv => ⟨rfl, e0, (by decide : 0 + 0 ≤ _), (by decide : 0 + 0 ≤ _)⟩)
  dsimp only [Pt.U, Pt.locs, Pt.cells, Pt.slots] at X292 l292 y292 z292 st292 hQ292
  subst l292 y292 z292
  obtain ⟨rfl, Nq292, e292⟩ := hQ292
  refine own_go st292 ?_
  have N292 := Fr.app N0 Nq292
  refine own_gk (XS.aloadN X292.here hx rfl (hb hby d13_5) rfl rfl) ?_
  refine own_gk (XS.aloadN X292.here hx rfl (hb hby d13_6) rfl rfl) ?_
  show own_Fin _ _ _ _ (T292.setTop (mkF m 7 #[rv a1, iv (Int32.ofNat (cnt)), rv a2] [(.ref a1), (.ref a2)]))
  obtain ⟨T293, X293, e293, st293⟩ := getF X292 hx hZ hown (host := "") (Or.inl (own_h hw 55 rfl)) Via.refl e292 F_value_a1 (g := (mkF m 7 #[rv a1, iv (Int32.ofNat (cnt)), rv a2] [(.ref a1), (.ref a2)])) rfl rfl (hb hby d13_7)
  refine own_by st293 ?_
  refine own_gk (XS.iloadN X293.here hx rfl (hb hby d13_10) rfl) ?_
  refine own_gk (XS.aloadN X293.here hx rfl (hb hby d13_11) rfl rfl) ?_
  obtain ⟨T294, X294, e294, st294⟩ := getF X293 hx hZ hown (host := "") (Or.inl (own_h hw 57 rfl)) Via.refl e293 F_coder_a1 (g := (mkF m 12 #[rv a1, iv (Int32.ofNat (cnt)), rv a2] [(.ref a1), (.int (Int32.ofNat (cnt))), (.ref va), (.ref a2)])) rfl rfl (hb hby d13_12)
  refine own_by st294 ?_
  obtain ⟨_, T295, Lc295, X295, hQ295, st295⟩ := own_callV X294 hx hZ E_a2 hown (own_h hw 89 rfl) (own_h hw 90 rfl) (notFace_of_selects (args := #[]) (mvT hZ (own_h hw 92 rfl))) (own_h hw 92 rfl) (own_h hw 91 rfl) (own_h hw 7 rfl) (own_h hw 93 rfl) (by decide) (rmgb_10 l Z a0 hw [] a2 v2 k2 n ds va kv cc f cnt h0 n0 Z0 E_a2 F_value_a2 F_coder_a2 V_v2 V_va g_va (Ne.symm nev) (by omega) (by omega) O0 hST hdl hdc) (W := 0) (by decide) (by decide) (g := (mkF m 15 #[rv a1, iv (Int32.ofNat (cnt)), rv a2] [(.int (1 : Int32)), (.int (Int32.ofNat (cnt))), (.ref va), (.ref a2)])) rfl (by rw [hml]; rfl) (argsL := [(.ref va), (.int (Int32.ofNat (cnt))), (.int (1 : Int32))]) (rest := []) (lenOf pd__28__5b_BIB_29_V rfl) rfl (Nat.le_of_eq rfl) (hb hby d13_15) rfl e294 (by decide) (by decide)
  refine own_go st295 ?_
  obtain ⟨rfl, Nq295, K295, r295_0⟩ := hQ295
  have Od295 := O0.keep K295 (allS g_va all0)
  have E_a1_295 := E_a1.keep K295
  have F_value_a1_295 := F_value_a1.keep K295 (ninS (Exa.neArv E_a1 V_va (own_h hw 42 rfl)) nin0)
  have F_count_a1_295 := F_count_a1.keep K295 (ninS (Exa.neArv E_a1 V_va (own_h hw 42 rfl)) nin0)
  have F_coder_a1_295 := F_coder_a1.keep K295 (ninS (Exa.neArv E_a1 V_va (own_h hw 42 rfl)) nin0)
  have F_maybeLatin1_a1_295 := F_maybeLatin1_a1.keep K295 (ninS (Exa.neArv E_a1 V_va (own_h hw 42 rfl)) nin0)
  have E_a2_295 := E_a2.keep K295
  have F_value_a2_295 := F_value_a2.keep K295 (ninS (Exa.neArv E_a2 V_va (own_h hw 6 rfl)) nin0)
  have F_coder_a2_295 := F_coder_a2.keep K295 (ninS (Exa.neArv E_a2 V_va (own_h hw 6 rfl)) nin0)
  have V_v2_295 := V_v2.keep K295 (ninS (Ne.symm nev) nin0)
  have Z295 : n0 ≤ T295.heap.size := Nat.le_trans Z0 K295.1
  have Kt295 := Kz.trans K295 (allS (P := fun x => x ∈ _ ∨ _ ≤ x) (Or.inl (List.mem_of_getElem? (i := 0) rfl)) all0)
  have N295 := Fr.app N292 Nq295
  show own_Fin _ _ _ _ (T295.setTop (mkF m 18 #[rv a1, iv (Int32.ofNat (cnt)), rv a2] []))
  obtain ⟨fs296, hr296, hrun296, hended296, hW296, hsame296⟩ := X295.leave (v := none) (fun _ => rfl)
  refine own_done (X295.returnOut hx hrt (hb hby d13_18) hr296) hrun296 hended296 ⟨_, _, rfl, ?_, ⟨_, rfl⟩, hW296, hsame296.mono (by decide) (by decide)⟩
  show Qpst_10 Z a1 va kv cc cnt f cs a2 v2 k2 n ds h0 n0 _ T295.heap _
  exact ⟨rfl, N295, Kt295, r295_0⟩
def Qap_10 (Z : State) (a1 : Addr) (va : Addr) (kv : ClassId) (cc : Nat) (cnt : Nat) (f : Nat → Int32) (cs : Nat → Int32) (a2 : Addr) (v2 : Addr) (k2 : ClassId) (n : Nat) (ds : Nat → Int32) (h0 : Heap) (n0 : Nat) (v : Option Value) (h : Heap) (L : List Loc) : Prop := ∃ (vb : Jvm.Addr) (kb : ClassId) (fb : Nat → Int32), v = some (.ref a1) ∧ Fr n0 L ∧ Keep h0 h [a1, va] ∧ Exa Z h a1 "java/lang/StringBuilder" ∧ Fld Z h a1 "java/lang/AbstractStringBuilder" "value" "[B" (.ref vb) ∧ Fld Z h a1 "java/lang/AbstractStringBuilder" "count" "I" (.int (Int32.ofNat (cnt + n))) ∧ Fld Z h a1 "java/lang/AbstractStringBuilder" "coder" "B" (.int (1 : Int32)) ∧ Fld Z h a1 "java/lang/AbstractStringBuilder" "maybeLatin1" "Z" (.int (0 : Int32)) ∧ Arv Z h vb kb .byte (Int32.ofNat (2 * (own_cap cc (cnt + n)))) (List.map Value.int (own_R fb (2 * (own_cap cc (cnt + n))))) (.int (0 : Int32)) ∧ (∀ j, j < 2 * (cnt + n) → fb j = own_u (own_app cs cnt ds) j) ∧ n0 ≤ vb ∧ (vb = va ∨ h0.size ≤ vb)
set_option maxRecDepth 65536 in
set_option maxHeartbeats 40000000 in
theorem rmap_10 (l : Launch) (Z : State) (a0 : Array Value) (hw : ∀ d ∈ tables_1, d.before a0 Z = true) (ws : List Jvm.Cond) (a1 : Addr) (va : Addr) (kv : ClassId) (cc : Nat) (cnt : Nat) (f : Nat → Int32) (cs : Nat → Int32) (a2 : Addr) (v2 : Addr) (k2 : ClassId) (n : Nat) (ds : Nat → Int32) (h0 : Heap) (n0 : Nat) (Z0 : n0 ≤ h0.size) (E_a1 : Exa Z h0 a1 "java/lang/StringBuilder") (F_value_a1 : Fld Z h0 a1 "java/lang/AbstractStringBuilder" "value" "[B" (.ref va)) (F_count_a1 : Fld Z h0 a1 "java/lang/AbstractStringBuilder" "count" "I" (.int (Int32.ofNat (cnt)))) (F_coder_a1 : Fld Z h0 a1 "java/lang/AbstractStringBuilder" "coder" "B" (.int (1 : Int32))) (F_maybeLatin1_a1 : Fld Z h0 a1 "java/lang/AbstractStringBuilder" "maybeLatin1" "Z" (.int (0 : Int32))) (V_va : Arv Z h0 va kv .byte (Int32.ofNat (2 * cc)) (List.map Value.int (own_R f (2 * cc))) (.int (0 : Int32))) (g_a1 : n0 ≤ a1) (g_va : n0 ≤ va) (E_a2 : Exa Z h0 a2 "java/lang/String") (F_value_a2 : Fld Z h0 a2 "java/lang/String" "value" "[B" (.ref v2)) (F_coder_a2 : Fld Z h0 a2 "java/lang/String" "coder" "B" (.int (0 : Int32))) (V_v2 : Arv Z h0 v2 k2 .byte (Int32.ofNat (n)) (List.map Value.int (own_R (own_lo ds) n)) (.int (0 : Int32))) (nev : va ≠ v2) (O0 : own_Old Z n0 h0) (hST : own_ST Z) (hf : ∀ j, j < 2 * cnt → f j = own_u cs j) (hch : ∀ j, own_ch (cs j)) (hdc : ∀ j, own_ch (ds j)) (hdl : ∀ j, j < n → ¬ (255 : Int32) < ds j) (hcn : cnt ≤ cc) (hcc : 16 ≤ cc) (hc2 : cc ≤ 90) (hsum : cnt + n ≤ 64) (hcap : own_cap cc (cnt + n) ≤ 128) : own_Met l own_y11 jdk_68_method_22_code 3 (some (.object "java/lang/AbstractStringBuilder")) ws ⟨7, 1, 256, 105⟩ #[(.ref a1), (.ref a2)] Z h0 (Qap_10 Z a1 va kv cc cnt f cs a2 v2 k2 n ds h0 n0) := by
  refine own_met (plainFor_of_name pn_java_lang_AbstractStringBuilder) (fun p e s m below meth c s₁ hx hby hml hrt hlk hZ hown hnm X0 e0 es0 => ?_)
  have N0 := Fr.nil n0
  rw [ef_RR_3 m a1 a2]
  have Kz := Keep.refl h0 [a1, va]
  by_cases hg : cnt + n ≤ cc
  · rw [own_capN hg] at hcap
    refine own_gk (XS.aloadN X0.here hx rfl (hb hby d11_0) rfl rfl) ?_
    refine own_gk (XS.ifnonnullYes X0.here hx rfl (pc0 := 1) (pc' := 9) rfl (hb hby d11_1) rfl (by decide) (by decide)) ?_
    refine own_gk (XS.aloadN X0.here hx rfl (hb hby d11_9) rfl rfl) ?_
    obtain ⟨_, T297, Lc297, X297, hQ297, st297⟩ := own_callV X0 hx hZ E_a2 hown (own_h hw 70 rfl) (own_h hw 31 rfl) (notFace_of_selects (args := #[]) (mvT hZ (own_h hw 33 rfl))) (own_h hw 33 rfl) (own_h hw 32 rfl) (own_h hw 7 rfl) (own_h hw 34 rfl) (by decide) (rmlenL l Z a0 hw [] a2 v2 k2 (own_lo ds) n h0 n0 Z0 E_a2 F_value_a2 F_coder_a2 V_v2 O0 hST (by omega)) (W := 0) (by decide) (by decide) (g := (mkF m 10 #[rv a1, rv a2, .unset] [(.ref a2)])) rfl (by rw [hml]; rfl) (argsL := []) (rest := []) (lenOf pd__28__29_I rfl) rfl (Nat.le_of_eq rfl) (hb hby d11_10) rfl e0 (by decide) (by decide)
    obtain ⟨rfl, Nq297, e297⟩ := hQ297
    refine own_go st297 ?_
    have N297 := Fr.app N0 Nq297
    show own_Fin _ _ _ _ (T297.setTop (mkF m 13 #[rv a1, rv a2, .unset] [(.int (Int32.ofNat (n)))]))
    refine own_gk (XS.istoreN X297.here hx rfl (hb hby d11_13) rfl rfl) ?_
    refine own_gk (XS.aloadN X297.here hx rfl (hb hby d11_14) rfl rfl) ?_
    refine own_gk (XS.aloadN X297.here hx rfl (hb hby d11_15) rfl rfl) ?_
    obtain ⟨T298, X298, e298, st298⟩ := getF X297 hx hZ hown (host := "") (Or.inl (own_h hw 71 rfl)) Via.refl e297 F_count_a1 (g := (mkF m 16 #[rv a1, rv a2, iv (Int32.ofNat (n))] [(.ref a1), (.ref a1)])) rfl rfl (hb hby d11_16)
    refine own_by st298 ?_
    refine own_gk (XS.iloadN X298.here hx rfl (hb hby d11_19) rfl) ?_
    show own_Fin _ _ _ _ (T298.setTop (mkF m 20 #[rv a1, rv a2, iv (Int32.ofNat (n))] [(.int (Int32.ofNat (n))), (.int (Int32.ofNat (cnt))), (.ref a1)]))
    refine own_gk (XS.iadd X298.here hx rfl (hb hby d11_20) rfl) ?_
    show own_Fin _ _ _ _ (T298.setTop (mkF m 21 #[rv a1, rv a2, iv (Int32.ofNat (n))] [(.int ((Int32.ofNat (cnt)) + (Int32.ofNat (n)))), (.ref a1)]))
    rw [show ((Int32.ofNat (cnt)) + (Int32.ofNat (n))) = Int32.ofNat (cnt + n) from (own_addN cnt n)]
    obtain ⟨cq299, q299, q299'⟩ := E_a1.cell
    obtain ⟨_, _, ⟨T299, L299, k299, n299⟩, -, X299, ⟨Lc299, hQ299, l299, y299, z299⟩, st299⟩ := X298.privateBack hx (y := own_y12) hown (mvT hZ (own_h hw 73 rfl)) (mvT hZ (own_h hw 74 rfl)) (own_privSel (mvT hZ (own_h hw 74 rfl)) (mvT hZ (own_h hw 76 rfl)) (Cond.privateMethod_at (mvP hZ (own_h hw 75 rfl) (args := #[]))) (by decide)) (Cond.privateMethod_at (mvP hZ (own_h hw 75 rfl) (args := #[]))) (mvT hZ (own_h hw 77 rfl)) (by decide) (backOf (W := 0) (rmecN_1 l Z a0 hw [] a1 va kv cc cnt f (cnt + n) h0 n0 Z0 E_a1 F_value_a1 F_count_a1 F_coder_a1 F_maybeLatin1_a1 V_va g_a1 g_va hcc hc2 (by omega) (by omega)) hZ (own_h hw 77 rfl) (own_h hw 51 rfl) (by decide) (by decide)) (g := (mkF m 21 #[rv a1, rv a2, iv (Int32.ofNat (n))] [(.int (Int32.ofNat (cnt + n))), (.ref a1)])) rfl (by rw [hml]; rfl) (Steps.refl _) (a := a1) (by rw [e298]; exact q299) q299' (argsL := [(.int (Int32.ofNat (cnt + n)))]) (rest := []) (lenOf pd__28_I_29_V rfl) rfl (by show 2 * 0 + _ ≤ _; exact Nat.le_of_eq rfl) (hb hby d11_21) (fun _ hv => ⟨rfl, e298, (by decide : 0 + 0 ≤ _), (by decide : 0 + 0 ≤ _)⟩)
    dsimp only [Pt.U, Pt.locs, Pt.cells, Pt.slots] at X299 l299 y299 z299 st299 hQ299
    subst l299 y299 z299
    obtain ⟨rfl, Nq299, e299⟩ := hQ299
    refine own_go st299 ?_
    have N299 := Fr.app N297 Nq299
    refine own_gk (XS.aloadN X299.here hx rfl (hb hby d11_24) rfl rfl) ?_
    refine own_gk (XS.aloadN X299.here hx rfl (hb hby d11_25) rfl rfl) ?_
    obtain ⟨T300, X300, e300, st300⟩ := getF X299 hx hZ hown (host := "") (Or.inl (own_h hw 71 rfl)) Via.refl e299 F_count_a1 (g := (mkF m 26 #[rv a1, rv a2, iv (Int32.ofNat (n))] [(.ref a1), (.ref a1)])) rfl rfl (hb hby d11_26)
    refine own_by st300 ?_
    show own_Fin _ _ _ _ (T300.setTop (mkF m 29 #[rv a1, rv a2, iv (Int32.ofNat (n))] [(.int (Int32.ofNat (cnt))), (.ref a1)]))
    refine own_gk (XS.aloadN X300.here hx rfl (hb hby d11_29) rfl rfl) ?_
    obtain ⟨cq301, q301, q301'⟩ := E_a1.cell
    obtain ⟨_, _, ⟨T301, L301, k301, n301⟩, -, X301, ⟨Lc301, hQ301, l301, y301, z301⟩, st301⟩ := X300.privateBack hx (y := own_y13) hown (mvT hZ (own_h hw 78 rfl)) (mvT hZ (own_h hw 79 rfl)) (own_privSel (mvT hZ (own_h hw 79 rfl)) (mvT hZ (own_h hw 81 rfl)) (Cond.privateMethod_at (mvP hZ (own_h hw 80 rfl) (args := #[]))) (by decide)) (Cond.privateMethod_at (mvP hZ (own_h hw 80 rfl) (args := #[]))) (mvT hZ (own_h hw 82 rfl)) (by decide) (backOf (W := 0) (rmpst_10 l Z a0 hw [] a1 va kv cc cnt f cs a2 v2 k2 n ds h0 n0 Z0 E_a1 F_value_a1 F_count_a1 F_coder_a1 F_maybeLatin1_a1 V_va g_a1 g_va E_a2 F_value_a2 F_coder_a2 V_v2 nev O0 hST hdl hdc (by omega) (by omega)) hZ (own_h hw 82 rfl) (own_h hw 51 rfl) (by decide) (by decide)) (g := (mkF m 30 #[rv a1, rv a2, iv (Int32.ofNat (n))] [(.ref a2), (.int (Int32.ofNat (cnt))), (.ref a1)])) rfl (by rw [hml]; rfl) (Steps.refl _) (a := a1) (by rw [e300]; exact q301) q301' (argsL := [(.int (Int32.ofNat (cnt))), (.ref a2)]) (rest := []) (lenOf pd__28_ILjava_2f_lang_2f_String_3b__29_V rfl) rfl (by show 2 * 0 + _ ≤ _; exact Nat.le_of_eq rfl) (hb hby d11_30) (fun _ hv => ⟨rfl, e300, (by decide : 0 + 0 ≤ _), (by decide : 0 + 0 ≤ _)⟩)
    dsimp only [Pt.U, Pt.locs, Pt.cells, Pt.slots] at X301 l301 y301 z301 st301 hQ301
    subst l301 y301 z301
    refine own_go st301 ?_
    obtain ⟨rfl, Nq301, K301, r301_0⟩ := hQ301
    have Od301 := O0.keep K301 (allS g_va all0)
    have E_a1_301 := E_a1.keep K301
    have F_value_a1_301 := F_value_a1.keep K301 (ninS (Exa.neArv E_a1 V_va (own_h hw 42 rfl)) nin0)
    have F_count_a1_301 := F_count_a1.keep K301 (ninS (Exa.neArv E_a1 V_va (own_h hw 42 rfl)) nin0)
    have F_coder_a1_301 := F_coder_a1.keep K301 (ninS (Exa.neArv E_a1 V_va (own_h hw 42 rfl)) nin0)
    have F_maybeLatin1_a1_301 := F_maybeLatin1_a1.keep K301 (ninS (Exa.neArv E_a1 V_va (own_h hw 42 rfl)) nin0)
    have E_a2_301 := E_a2.keep K301
    have F_value_a2_301 := F_value_a2.keep K301 (ninS (Exa.neArv E_a2 V_va (own_h hw 6 rfl)) nin0)
    have F_coder_a2_301 := F_coder_a2.keep K301 (ninS (Exa.neArv E_a2 V_va (own_h hw 6 rfl)) nin0)
    have V_v2_301 := V_v2.keep K301 (ninS (Ne.symm nev) nin0)
    have Z301 : n0 ≤ T301.heap.size := Nat.le_trans Z0 K301.1
    have Kt301 := Kz.trans K301 (allS (P := fun x => x ∈ _ ∨ _ ≤ x) (Or.inl (List.mem_of_getElem? (i := 1) rfl)) all0)
    have N301 := Fr.app N299 Nq301
    refine own_gk (XS.aloadN X301.here hx rfl (hb hby d11_33) rfl rfl) ?_
    refine own_gk (XS.dup X301.here hx rfl (hb hby d11_34) rfl rfl) ?_
    obtain ⟨T302, X302, e302, st302⟩ := getF X301 hx hZ hown (host := "") (Or.inl (own_h hw 71 rfl)) Via.refl rfl F_count_a1_301 (g := (mkF m 35 #[rv a1, rv a2, iv (Int32.ofNat (n))] [(.ref a1), (.ref a1)])) rfl rfl (hb hby d11_35)
    refine own_by st302 ?_
    show own_Fin _ _ _ _ (T302.setTop (mkF m 38 #[rv a1, rv a2, iv (Int32.ofNat (n))] [(.int (Int32.ofNat (cnt))), (.ref a1)]))
    refine own_gk (XS.iloadN X302.here hx rfl (hb hby d11_38) rfl) ?_
    refine own_gk (XS.iadd X302.here hx rfl (hb hby d11_39) rfl) ?_
    show own_Fin _ _ _ _ (T302.setTop (mkF m 40 #[rv a1, rv a2, iv (Int32.ofNat (n))] [(.int ((Int32.ofNat (cnt)) + (Int32.ofNat (n)))), (.ref a1)]))
    rw [show ((Int32.ofNat (cnt)) + (Int32.ofNat (n))) = Int32.ofNat (cnt + n) from (own_addN cnt n)]
    obtain ⟨T303, h303, X303, e303, W303, st303⟩ := putF X302 hx hZ hown (host := "") (Or.inl (own_h hw 71 rfl)) Via.refl e302 F_count_a1_301 E_a1_301 (Or.inl (own_h hw 72 rfl)) (own_h hw 42 rfl) (ty := .int) (by decide) rfl rfl (g := (mkF m 40 #[rv a1, rv a2, iv (Int32.ofNat (n))] [(.int (Int32.ofNat (cnt + n))), (.ref a1)])) rfl rfl (hb hby d11_40)
    refine own_by st303 ?_
    have F_count_a1_303 := F_count_a1_301.same W303
    have Od303 := Od301.wr W303 g_a1
    have E_a1_303 := E_a1_301.wr W303
    have F_value_a1_303 := F_value_a1_301.other W303 (Or.inr (slot_ne (Or.inl (own_h hw 56 rfl)) (Or.inl (own_h hw 72 rfl)) (by decide) (t := (.array .byte)) (t' := .int) (by decide) (by decide)))
    have F_coder_a1_303 := F_coder_a1_301.other W303 (Or.inr (slot_ne (Or.inl (own_h hw 58 rfl)) (Or.inl (own_h hw 72 rfl)) (by decide) (t := .byte) (t' := .int) (by decide) (by decide)))
    have F_maybeLatin1_a1_303 := F_maybeLatin1_a1_301.other W303 (Or.inr (slot_ne (Or.inl (own_h hw 262 rfl)) (Or.inl (own_h hw 72 rfl)) (by decide) (t := .boolean) (t' := .int) (by decide) (by decide)))
    have E_a2_303 := E_a2_301.wr W303
    have F_value_a2_303 := F_value_a2_301.other W303 (Or.inl (Exa.ne E_a2_301 E_a1_301 (by decide)))
    have F_coder_a2_303 := F_coder_a2_301.other W303 (Or.inl (Exa.ne E_a2_301 E_a1_301 (by decide)))
    have V_v2_303 := V_v2_301.other W303 (Ne.symm (Exa.neArv E_a1_301 V_v2_301 (own_h hw 42 rfl)))
    have r301_0_303 := r301_0.other W303 (Ne.symm (Exa.neArv E_a1_301 r301_0 (own_h hw 42 rfl)))
    have N303 := Fr.snoc X303 N301 g_a1
    have Z303 : n0 ≤ h303.size := Nat.le_trans Z301 (Keep.of_wr W303).1
    have K303 := Kt301.wr W303 (Or.inl (List.mem_of_getElem? (i := 0) rfl))
    refine own_gk (XS.aloadN X303.here hx rfl (hb hby d11_43) rfl rfl) ?_
    obtain ⟨fs304, hr304, hrun304, hended304, hW304, hsame304⟩ := X303.leave (v := some (.ref a1)) (fun h => by rw [hrt] at h; cases h)
    refine own_done (retOut X303 hx hrt rfl (Or.inr (Or.inr (Or.inr (Or.inr ⟨rfl, rfl, rfl⟩)))) (hb hby d11_44) hr304) hrun304 hended304 ⟨_, _, rfl, ?_, ⟨_, rfl⟩, hW304, hsame304.mono (by decide) (by decide)⟩
    show Qap_10 Z a1 va kv cc cnt f cs a2 v2 k2 n ds h0 n0 _ T303.heap _
    rw [e303]
    exact ⟨va, kv, (own_cpf f (own_u ds) (2 * cnt) 0 (2 * n)), rfl, N303, K303, E_a1_303, F_value_a1_303, F_count_a1_303, F_coder_a1_303, F_maybeLatin1_a1_303, (by rw [own_capN hg]; exact r301_0_303), (own_appU hf), g_va, (Or.inl rfl)⟩
  · rw [own_capG hg] at hcap
    refine own_gk (XS.aloadN X0.here hx rfl (hb hby d11_0) rfl rfl) ?_
    refine own_gk (XS.ifnonnullYes X0.here hx rfl (pc0 := 1) (pc' := 9) rfl (hb hby d11_1) rfl (by decide) (by decide)) ?_
    refine own_gk (XS.aloadN X0.here hx rfl (hb hby d11_9) rfl rfl) ?_
    obtain ⟨_, T305, Lc305, X305, hQ305, st305⟩ := own_callV X0 hx hZ E_a2 hown (own_h hw 70 rfl) (own_h hw 31 rfl) (notFace_of_selects (args := #[]) (mvT hZ (own_h hw 33 rfl))) (own_h hw 33 rfl) (own_h hw 32 rfl) (own_h hw 7 rfl) (own_h hw 34 rfl) (by decide) (rmlenL l Z a0 hw [] a2 v2 k2 (own_lo ds) n h0 n0 Z0 E_a2 F_value_a2 F_coder_a2 V_v2 O0 hST (by omega)) (W := 0) (by decide) (by decide) (g := (mkF m 10 #[rv a1, rv a2, .unset] [(.ref a2)])) rfl (by rw [hml]; rfl) (argsL := []) (rest := []) (lenOf pd__28__29_I rfl) rfl (Nat.le_of_eq rfl) (hb hby d11_10) rfl e0 (by decide) (by decide)
    obtain ⟨rfl, Nq305, e305⟩ := hQ305
    refine own_go st305 ?_
    have N305 := Fr.app N0 Nq305
    show own_Fin _ _ _ _ (T305.setTop (mkF m 13 #[rv a1, rv a2, .unset] [(.int (Int32.ofNat (n)))]))
    refine own_gk (XS.istoreN X305.here hx rfl (hb hby d11_13) rfl rfl) ?_
    refine own_gk (XS.aloadN X305.here hx rfl (hb hby d11_14) rfl rfl) ?_
    refine own_gk (XS.aloadN X305.here hx rfl (hb hby d11_15) rfl rfl) ?_
    obtain ⟨T306, X306, e306, st306⟩ := getF X305 hx hZ hown (host := "") (Or.inl (own_h hw 71 rfl)) Via.refl e305 F_count_a1 (g := (mkF m 16 #[rv a1, rv a2, iv (Int32.ofNat (n))] [(.ref a1), (.ref a1)])) rfl rfl (hb hby d11_16)
    refine own_by st306 ?_
    refine own_gk (XS.iloadN X306.here hx rfl (hb hby d11_19) rfl) ?_
    show own_Fin _ _ _ _ (T306.setTop (mkF m 20 #[rv a1, rv a2, iv (Int32.ofNat (n))] [(.int (Int32.ofNat (n))), (.int (Int32.ofNat (cnt))), (.ref a1)]))
    refine own_gk (XS.iadd X306.here hx rfl (hb hby d11_20) rfl) ?_
    show own_Fin _ _ _ _ (T306.setTop (mkF m 21 #[rv a1, rv a2, iv (Int32.ofNat (n))] [(.int ((Int32.ofNat (cnt)) + (Int32.ofNat (n)))), (.ref a1)]))
    rw [show ((Int32.ofNat (cnt)) + (Int32.ofNat (n))) = Int32.ofNat (cnt + n) from (own_addN cnt n)]
    obtain ⟨cq307, q307, q307'⟩ := E_a1.cell
    obtain ⟨_, _, ⟨T307, L307, k307, n307⟩, -, X307, ⟨Lc307, hQ307, l307, y307, z307⟩, st307⟩ := X306.privateBack hx (y := own_y12) hown (mvT hZ (own_h hw 73 rfl)) (mvT hZ (own_h hw 74 rfl)) (own_privSel (mvT hZ (own_h hw 74 rfl)) (mvT hZ (own_h hw 76 rfl)) (Cond.privateMethod_at (mvP hZ (own_h hw 75 rfl) (args := #[]))) (by decide)) (Cond.privateMethod_at (mvP hZ (own_h hw 75 rfl) (args := #[]))) (mvT hZ (own_h hw 77 rfl)) (by decide) (backOf (W := 0) (rmecG_1 l Z a0 hw [] a1 va kv cc cnt f (cnt + n) h0 n0 Z0 E_a1 F_value_a1 F_count_a1 F_coder_a1 F_maybeLatin1_a1 V_va g_a1 g_va hcc hc2 (by omega) (by omega) (by omega)) hZ (own_h hw 77 rfl) (own_h hw 51 rfl) (by decide) (by decide)) (g := (mkF m 21 #[rv a1, rv a2, iv (Int32.ofNat (n))] [(.int (Int32.ofNat (cnt + n))), (.ref a1)])) rfl (by rw [hml]; rfl) (Steps.refl _) (a := a1) (by rw [e306]; exact q307) q307' (argsL := [(.int (Int32.ofNat (cnt + n)))]) (rest := []) (lenOf pd__28_I_29_V rfl) rfl (by show 2 * 0 + _ ≤ _; exact Nat.le_of_eq rfl) (hb hby d11_21) (fun _ hv => ⟨rfl, e306, (by decide : 0 + 1 ≤ _), (by decide : 0 + 256 ≤ _)⟩)
    dsimp only [Pt.U, Pt.locs, Pt.cells, Pt.slots] at X307 l307 y307 z307 st307 hQ307
    subst l307 y307 z307
    refine own_go st307 ?_
    obtain ⟨vb_307, kb_307, rfl, Nq307, K307, g_vb_307, sb_vb_307, r307_0, r307_1, r307_2, r307_3, r307_4, r307_5⟩ := hQ307
    have ne_a1_vb_307 : a1 ≠ vb_307 := Nat.ne_of_lt (Nat.lt_of_lt_of_le E_a1.lt sb_vb_307)
    have ne_va_vb_307 : va ≠ vb_307 := Nat.ne_of_lt (Nat.lt_of_lt_of_le V_va.lt sb_vb_307)
    have ne_a2_vb_307 : a2 ≠ vb_307 := Nat.ne_of_lt (Nat.lt_of_lt_of_le E_a2.lt sb_vb_307)
    have ne_v2_vb_307 : v2 ≠ vb_307 := Nat.ne_of_lt (Nat.lt_of_lt_of_le V_v2.lt sb_vb_307)
    have sz_vb_307 : h0.size ≤ vb_307 := Nat.le_trans Kz.1 sb_vb_307
    have Od307 := O0.keep K307 (allS g_a1 all0)
    have E_a1_307 := E_a1.keep K307
    have V_va_307 := V_va.keep K307 (ninS (Ne.symm (Exa.neArv E_a1 V_va (own_h hw 42 rfl))) nin0)
    have E_a2_307 := E_a2.keep K307
    have F_value_a2_307 := F_value_a2.keep K307 (ninS (Exa.ne E_a2 E_a1 (by decide)) nin0)
    have F_coder_a2_307 := F_coder_a2.keep K307 (ninS (Exa.ne E_a2 E_a1 (by decide)) nin0)
    have V_v2_307 := V_v2.keep K307 (ninS (Ne.symm (Exa.neArv E_a1 V_v2 (own_h hw 42 rfl))) nin0)
    have Z307 : n0 ≤ T307.heap.size := Nat.le_trans Z0 K307.1
    have Kt307 := Kz.trans K307 (allS (P := fun x => x ∈ _ ∨ _ ≤ x) (Or.inl (List.mem_of_getElem? (i := 0) rfl)) all0)
    have N307 := Fr.app N305 Nq307
    refine own_gk (XS.aloadN X307.here hx rfl (hb hby d11_24) rfl rfl) ?_
    refine own_gk (XS.aloadN X307.here hx rfl (hb hby d11_25) rfl rfl) ?_
    obtain ⟨T308, X308, e308, st308⟩ := getF X307 hx hZ hown (host := "") (Or.inl (own_h hw 71 rfl)) Via.refl rfl r307_2 (g := (mkF m 26 #[rv a1, rv a2, iv (Int32.ofNat (n))] [(.ref a1), (.ref a1)])) rfl rfl (hb hby d11_26)
    refine own_by st308 ?_
    show own_Fin _ _ _ _ (T308.setTop (mkF m 29 #[rv a1, rv a2, iv (Int32.ofNat (n))] [(.int (Int32.ofNat (cnt))), (.ref a1)]))
    refine own_gk (XS.aloadN X308.here hx rfl (hb hby d11_29) rfl rfl) ?_
    obtain ⟨cq309, q309, q309'⟩ := r307_0.cell
    obtain ⟨_, _, ⟨T309, L309, k309, n309⟩, -, X309, ⟨Lc309, hQ309, l309, y309, z309⟩, st309⟩ := X308.privateBack hx (y := own_y13) hown (mvT hZ (own_h hw 78 rfl)) (mvT hZ (own_h hw 79 rfl)) (own_privSel (mvT hZ (own_h hw 79 rfl)) (mvT hZ (own_h hw 81 rfl)) (Cond.privateMethod_at (mvP hZ (own_h hw 80 rfl) (args := #[]))) (by decide)) (Cond.privateMethod_at (mvP hZ (own_h hw 80 rfl) (args := #[]))) (mvT hZ (own_h hw 82 rfl)) (by decide) (backOf (W := 0) (rmpst_10 l Z a0 hw [] a1 vb_307 kb_307 (max (cnt + n) (2 * cc + 2)) cnt (own_cpf (fun _ => (0 : Int32)) f 0 0 (2 * cc)) cs a2 v2 k2 n ds T307.heap n0 Z307 r307_0 r307_1 r307_2 r307_3 r307_4 r307_5 g_a1 g_vb_307 E_a2_307 F_value_a2_307 F_coder_a2_307 V_v2_307 (Ne.symm ne_v2_vb_307) Od307 hST hdl hdc (by omega) (by omega)) hZ (own_h hw 82 rfl) (own_h hw 51 rfl) (by decide) (by decide)) (g := (mkF m 30 #[rv a1, rv a2, iv (Int32.ofNat (n))] [(.ref a2), (.int (Int32.ofNat (cnt))), (.ref a1)])) rfl (by rw [hml]; rfl) (Steps.refl _) (a := a1) (by rw [e308]; exact q309) q309' (argsL := [(.int (Int32.ofNat (cnt))), (.ref a2)]) (rest := []) (lenOf pd__28_ILjava_2f_lang_2f_String_3b__29_V rfl) rfl (by show 2 * 0 + _ ≤ _; exact Nat.le_of_eq rfl) (hb hby d11_30) (fun _ hv => ⟨rfl, e308, (by decide : 1 + 0 ≤ _), (by decide : 256 + 0 ≤ _)⟩)
    dsimp only [Pt.U, Pt.locs, Pt.cells, Pt.slots] at X309 l309 y309 z309 st309 hQ309
    subst l309 y309 z309
    refine own_go st309 ?_
    obtain ⟨rfl, Nq309, K309, r309_0⟩ := hQ309
    have Od309 := Od307.keep K309 (allS g_vb_307 all0)
    have r307_0_309 := r307_0.keep K309
    have V_va_309 := V_va_307.keep K309 (ninS ne_va_vb_307 nin0)
    have E_a2_309 := E_a2_307.keep K309
    have F_value_a2_309 := F_value_a2_307.keep K309 (ninS ne_a2_vb_307 nin0)
    have F_coder_a2_309 := F_coder_a2_307.keep K309 (ninS ne_a2_vb_307 nin0)
    have V_v2_309 := V_v2_307.keep K309 (ninS ne_v2_vb_307 nin0)
    have r307_1_309 := r307_1.keep K309 (ninS ne_a1_vb_307 nin0)
    have r307_2_309 := r307_2.keep K309 (ninS ne_a1_vb_307 nin0)
    have r307_3_309 := r307_3.keep K309 (ninS ne_a1_vb_307 nin0)
    have r307_4_309 := r307_4.keep K309 (ninS ne_a1_vb_307 nin0)
    have Z309 : n0 ≤ T309.heap.size := Nat.le_trans Z307 K309.1
    have Kt309 := Kt307.trans K309 (allS (P := fun x => x ∈ _ ∨ _ ≤ x) (Or.inr sz_vb_307) all0)
    have N309 := Fr.app N307 Nq309
    refine own_gk (XS.aloadN X309.here hx rfl (hb hby d11_33) rfl rfl) ?_
    refine own_gk (XS.dup X309.here hx rfl (hb hby d11_34) rfl rfl) ?_
    obtain ⟨T310, X310, e310, st310⟩ := getF X309 hx hZ hown (host := "") (Or.inl (own_h hw 71 rfl)) Via.refl rfl r307_2_309 (g := (mkF m 35 #[rv a1, rv a2, iv (Int32.ofNat (n))] [(.ref a1), (.ref a1)])) rfl rfl (hb hby d11_35)
    refine own_by st310 ?_
    show own_Fin _ _ _ _ (T310.setTop (mkF m 38 #[rv a1, rv a2, iv (Int32.ofNat (n))] [(.int (Int32.ofNat (cnt))), (.ref a1)]))
    refine own_gk (XS.iloadN X310.here hx rfl (hb hby d11_38) rfl) ?_
    refine own_gk (XS.iadd X310.here hx rfl (hb hby d11_39) rfl) ?_
    show own_Fin _ _ _ _ (T310.setTop (mkF m 40 #[rv a1, rv a2, iv (Int32.ofNat (n))] [(.int ((Int32.ofNat (cnt)) + (Int32.ofNat (n)))), (.ref a1)]))
    rw [show ((Int32.ofNat (cnt)) + (Int32.ofNat (n))) = Int32.ofNat (cnt + n) from (own_addN cnt n)]
    obtain ⟨T311, h311, X311, e311, W311, st311⟩ := putF X310 hx hZ hown (host := "") (Or.inl (own_h hw 71 rfl)) Via.refl e310 r307_2_309 r307_0_309 (Or.inl (own_h hw 72 rfl)) (own_h hw 42 rfl) (ty := .int) (by decide) rfl rfl (g := (mkF m 40 #[rv a1, rv a2, iv (Int32.ofNat (n))] [(.int (Int32.ofNat (cnt + n))), (.ref a1)])) rfl rfl (hb hby d11_40)
    refine own_by st311 ?_
    have F_count_a1_311 := r307_2_309.same W311
    have Od311 := Od309.wr W311 g_a1
    have r307_0_311 := r307_0_309.wr W311
    have V_va_311 := V_va_309.other W311 (Ne.symm (Exa.neArv r307_0_309 V_va_309 (own_h hw 42 rfl)))
    have E_a2_311 := E_a2_309.wr W311
    have F_value_a2_311 := F_value_a2_309.other W311 (Or.inl (Exa.ne E_a2_309 r307_0_309 (by decide)))
    have F_coder_a2_311 := F_coder_a2_309.other W311 (Or.inl (Exa.ne E_a2_309 r307_0_309 (by decide)))
    have V_v2_311 := V_v2_309.other W311 (Ne.symm (Exa.neArv r307_0_309 V_v2_309 (own_h hw 42 rfl)))
    have r307_1_311 := r307_1_309.other W311 (Or.inr (slot_ne (Or.inl (own_h hw 56 rfl)) (Or.inl (own_h hw 72 rfl)) (by decide) (t := (.array .byte)) (t' := .int) (by decide) (by decide)))
    have r307_3_311 := r307_3_309.other W311 (Or.inr (slot_ne (Or.inl (own_h hw 58 rfl)) (Or.inl (own_h hw 72 rfl)) (by decide) (t := .byte) (t' := .int) (by decide) (by decide)))
    have r307_4_311 := r307_4_309.other W311 (Or.inr (slot_ne (Or.inl (own_h hw 262 rfl)) (Or.inl (own_h hw 72 rfl)) (by decide) (t := .boolean) (t' := .int) (by decide) (by decide)))
    have r309_0_311 := r309_0.other W311 (Ne.symm ne_a1_vb_307)
    have N311 := Fr.snoc X311 N309 g_a1
    have Z311 : n0 ≤ h311.size := Nat.le_trans Z309 (Keep.of_wr W311).1
    have K311 := Kt309.wr W311 (Or.inl (List.mem_of_getElem? (i := 0) rfl))
    refine own_gk (XS.aloadN X311.here hx rfl (hb hby d11_43) rfl rfl) ?_
    obtain ⟨fs312, hr312, hrun312, hended312, hW312, hsame312⟩ := X311.leave (v := some (.ref a1)) (fun h => by rw [hrt] at h; cases h)
    refine own_done (retOut X311 hx hrt rfl (Or.inr (Or.inr (Or.inr (Or.inr ⟨rfl, rfl, rfl⟩)))) (hb hby d11_44) hr312) hrun312 hended312 ⟨_, _, rfl, ?_, ⟨_, rfl⟩, hW312, hsame312.mono (by decide) (by decide)⟩
    show Qap_10 Z a1 va kv cc cnt f cs a2 v2 k2 n ds h0 n0 _ T311.heap _
    rw [e311]
    exact ⟨vb_307, kb_307, (own_cpf (own_cpf (fun _ => (0 : Int32)) f 0 0 (2 * cc)) (own_u ds) (2 * cnt) 0 (2 * n)), rfl, N311, K311, r307_0_311, r307_1_311, F_count_a1_311, r307_3_311, r307_4_311, (by rw [own_capG hg]; exact r309_0_311), (own_appU (fun j hj => (own_cpf0 (by omega)).trans (hf j hj))), g_vb_307, (Or.inr sz_vb_307)⟩
def Qsap_10 (Z : State) (a1 : Addr) (va : Addr) (kv : ClassId) (cc : Nat) (cnt : Nat) (f : Nat → Int32) (cs : Nat → Int32) (a2 : Addr) (v2 : Addr) (k2 : ClassId) (n : Nat) (ds : Nat → Int32) (h0 : Heap) (n0 : Nat) (v : Option Value) (h : Heap) (L : List Loc) : Prop := ∃ (vb : Jvm.Addr) (kb : ClassId) (fb : Nat → Int32), v = some (.ref a1) ∧ Fr n0 L ∧ Keep h0 h [a1, va] ∧ Exa Z h a1 "java/lang/StringBuilder" ∧ Fld Z h a1 "java/lang/AbstractStringBuilder" "value" "[B" (.ref vb) ∧ Fld Z h a1 "java/lang/AbstractStringBuilder" "count" "I" (.int (Int32.ofNat (cnt + n))) ∧ Fld Z h a1 "java/lang/AbstractStringBuilder" "coder" "B" (.int (1 : Int32)) ∧ Fld Z h a1 "java/lang/AbstractStringBuilder" "maybeLatin1" "Z" (.int (0 : Int32)) ∧ Arv Z h vb kb .byte (Int32.ofNat (2 * (own_cap cc (cnt + n)))) (List.map Value.int (own_R fb (2 * (own_cap cc (cnt + n))))) (.int (0 : Int32)) ∧ (∀ j, j < 2 * (cnt + n) → fb j = own_u (own_app cs cnt ds) j) ∧ n0 ≤ vb ∧ (vb = va ∨ h0.size ≤ vb)
set_option maxRecDepth 65536 in
set_option maxHeartbeats 40000000 in
theorem rmsap_10 (l : Launch) (Z : State) (a0 : Array Value) (hw : ∀ d ∈ tables_1, d.before a0 Z = true) (ws : List Jvm.Cond) (a1 : Addr) (va : Addr) (kv : ClassId) (cc : Nat) (cnt : Nat) (f : Nat → Int32) (cs : Nat → Int32) (a2 : Addr) (v2 : Addr) (k2 : ClassId) (n : Nat) (ds : Nat → Int32) (h0 : Heap) (n0 : Nat) (Z0 : n0 ≤ h0.size) (E_a1 : Exa Z h0 a1 "java/lang/StringBuilder") (F_value_a1 : Fld Z h0 a1 "java/lang/AbstractStringBuilder" "value" "[B" (.ref va)) (F_count_a1 : Fld Z h0 a1 "java/lang/AbstractStringBuilder" "count" "I" (.int (Int32.ofNat (cnt)))) (F_coder_a1 : Fld Z h0 a1 "java/lang/AbstractStringBuilder" "coder" "B" (.int (1 : Int32))) (F_maybeLatin1_a1 : Fld Z h0 a1 "java/lang/AbstractStringBuilder" "maybeLatin1" "Z" (.int (0 : Int32))) (V_va : Arv Z h0 va kv .byte (Int32.ofNat (2 * cc)) (List.map Value.int (own_R f (2 * cc))) (.int (0 : Int32))) (g_a1 : n0 ≤ a1) (g_va : n0 ≤ va) (E_a2 : Exa Z h0 a2 "java/lang/String") (F_value_a2 : Fld Z h0 a2 "java/lang/String" "value" "[B" (.ref v2)) (F_coder_a2 : Fld Z h0 a2 "java/lang/String" "coder" "B" (.int (0 : Int32))) (V_v2 : Arv Z h0 v2 k2 .byte (Int32.ofNat (n)) (List.map Value.int (own_R (own_lo ds) n)) (.int (0 : Int32))) (nev : va ≠ v2) (O0 : own_Old Z n0 h0) (hST : own_ST Z) (hf : ∀ j, j < 2 * cnt → f j = own_u cs j) (hch : ∀ j, own_ch (cs j)) (hdc : ∀ j, own_ch (ds j)) (hdl : ∀ j, j < n → ¬ (255 : Int32) < ds j) (hcn : cnt ≤ cc) (hcc : 16 ≤ cc) (hc2 : cc ≤ 90) (hsum : cnt + n ≤ 64) (hcap : own_cap cc (cnt + n) ≤ 128) : own_Met l own_y10 jdk_67_method_7_code 2 (some (.object "java/lang/StringBuilder")) ws ⟨8, 1, 256, 119⟩ #[(.ref a1), (.ref a2)] Z h0 (Qsap_10 Z a1 va kv cc cnt f cs a2 v2 k2 n ds h0 n0) := by
  refine own_met (plainFor_of_name pn_java_lang_StringBuilder) (fun p e s m below meth c s₁ hx hby hml hrt hlk hZ hown hnm X0 e0 es0 => ?_)
  have N0 := Fr.nil n0
  rw [ef_RR_2 m a1 a2]
  have Kz := Keep.refl h0 [a1, va]
  refine own_gk (XS.aloadN X0.here hx rfl (hb hby d10_0) rfl rfl) ?_
  refine own_gk (XS.aloadN X0.here hx rfl (hb hby d10_1) rfl rfl) ?_
  obtain ⟨cq313, kq313, q313a, q313b, q313c⟩ := isOf hZ e0 E_a1
  obtain ⟨_, _, ⟨T313, L313, k313, n313⟩, -, X313, ⟨Lc313, hQ313, l313, y313, z313⟩, st313⟩ := own_upBack X0 hx (x := own_y11) hown (mvT hZ (own_h hw 65 rfl)) (mvT hZ (own_h hw 66 rfl)) (mvT hZ (own_h hw 67 rfl)) (mvT hZ (own_h hw 69 rfl)) (mvT hZ (own_h hw 76 rfl)) rfl (by decide) (by decide) q313a q313c (backOf (W := 0) (rmap_10 l Z a0 hw [] a1 va kv cc cnt f cs a2 v2 k2 n ds h0 n0 Z0 E_a1 F_value_a1 F_count_a1 F_coder_a1 F_maybeLatin1_a1 V_va g_a1 g_va E_a2 F_value_a2 F_coder_a2 V_v2 nev O0 hST hf hch hdc hdl hcn hcc hc2 hsum hcap) hZ (own_h hw 69 rfl) (own_h hw 51 rfl) (by decide) (by decide)) (g := (mkF m 2 #[rv a1, rv a2] [(.ref a2), (.ref a1)])) rfl (by rw [hml]; rfl) (Steps.refl _) (argsL := [(.ref a2)]) (rest := []) (lenOf pd__28_Ljava_2f_lang_2f_String_3b__29_Ljava_2f_lang_2f_AbstractStringBuilder_3b_ rfl) rfl (by show 2 * 0 + _ ≤ _; exact Nat.le_of_eq rfl) (hb hby d10_2) (fun _ hv => ⟨rfl, e0, (by decide : 0 + 1 ≤ _), (by decide : 0 + 256 ≤ _)⟩)
  dsimp only [Pt.U, Pt.locs, Pt.cells, Pt.slots] at X313 l313 y313 z313 st313 hQ313
  subst l313 y313 z313
  refine own_go st313 ?_
  obtain ⟨vb_313, kb_313, fb_313, rfl, Nq313, K313, r313_0, r313_1, r313_2, r313_3, r313_4, r313_5, r313_6, r313_7, r313_8⟩ := hQ313
  have Od313 := O0.keep K313 (allS g_a1 (allS g_va all0))
  have E_a1_313 := E_a1.keep K313
  have E_a2_313 := E_a2.keep K313
  have F_value_a2_313 := F_value_a2.keep K313 (ninS (Exa.ne E_a2 E_a1 (by decide)) (ninS (Exa.neArv E_a2 V_va (own_h hw 6 rfl)) nin0))
  have F_coder_a2_313 := F_coder_a2.keep K313 (ninS (Exa.ne E_a2 E_a1 (by decide)) (ninS (Exa.neArv E_a2 V_va (own_h hw 6 rfl)) nin0))
  have V_v2_313 := V_v2.keep K313 (ninS (Ne.symm (Exa.neArv E_a1 V_v2 (own_h hw 42 rfl))) (ninS (Ne.symm nev) nin0))
  have Z313 : n0 ≤ T313.heap.size := Nat.le_trans Z0 K313.1
  have Kt313 := Kz.trans K313 (allS (P := fun x => x ∈ _ ∨ _ ≤ x) (Or.inl (List.mem_of_getElem? (i := 0) rfl)) (allS (P := fun x => x ∈ _ ∨ _ ≤ x) (Or.inl (List.mem_of_getElem? (i := 1) rfl)) all0))
  have N313 := Fr.app N0 Nq313
  refine own_gk (XS.pop X313.here hx rfl (hb hby d10_5) rfl rfl) ?_
  refine own_gk (XS.aloadN X313.here hx rfl (hb hby d10_6) rfl rfl) ?_
  show own_Fin _ _ _ _ (T313.setTop (mkF m 7 #[rv a1, rv a2] [(.ref a1)]))
  obtain ⟨fs314, hr314, hrun314, hended314, hW314, hsame314⟩ := X313.leave (v := some (.ref a1)) (fun h => by rw [hrt] at h; cases h)
  refine own_done (retOut X313 hx hrt rfl (Or.inr (Or.inr (Or.inr (Or.inr ⟨rfl, rfl, rfl⟩)))) (hb hby d10_7) hr314) hrun314 hended314 ⟨_, _, rfl, ?_, ⟨_, rfl⟩, hW314, hsame314.mono (by decide) (by decide)⟩
  show Qsap_10 Z a1 va kv cc cnt f cs a2 v2 k2 n ds h0 n0 _ T313.heap _
  exact ⟨vb_313, kb_313, fb_313, rfl, N313, Kt313, r313_0, r313_1, r313_2, r313_3, r313_4, r313_5, r313_6, r313_7, r313_8⟩
def Qpst_01 (Z : State) (a1 : Addr) (va : Addr) (kv : ClassId) (cc : Nat) (cnt : Nat) (f : Nat → Int32) (cs : Nat → Int32) (a2 : Addr) (v2 : Addr) (k2 : ClassId) (n : Nat) (ds : Nat → Int32) (h0 : Heap) (n0 : Nat) (v : Option Value) (h : Heap) (L : List Loc) : Prop := ∃ (vb : Addr) (kb : ClassId), v = none ∧ Fr n0 L ∧ Keep h0 h [a1] ∧ n0 ≤ vb ∧ h0.size ≤ vb ∧ Exa Z h a1 "java/lang/StringBuilder" ∧ Fld Z h a1 "java/lang/AbstractStringBuilder" "value" "[B" (.ref vb) ∧ Fld Z h a1 "java/lang/AbstractStringBuilder" "count" "I" (.int (Int32.ofNat (cnt))) ∧ Fld Z h a1 "java/lang/AbstractStringBuilder" "coder" "B" (.int (1 : Int32)) ∧ Fld Z h a1 "java/lang/AbstractStringBuilder" "maybeLatin1" "Z" (.int (0 : Int32)) ∧ Arv Z h vb kb .byte (Int32.ofNat (2 * cc)) (List.map Value.int (own_R (own_cpf (own_cpf (fun _ => (0 : Int32)) (own_u cs) (2 * 0) 0 (2 * cnt)) (own_u ds) (2 * cnt) 0 (2 * n)) (2 * cc))) (.int (0 : Int32))
set_option maxRecDepth 65536 in
set_option maxHeartbeats 40000000 in
theorem rmpst_01 (l : Launch) (Z : State) (a0 : Array Value) (hw : ∀ d ∈ tables_1, d.before a0 Z = true) (ws : List Jvm.Cond) (a1 : Addr) (va : Addr) (kv : ClassId) (cc : Nat) (cnt : Nat) (f : Nat → Int32) (cs : Nat → Int32) (a2 : Addr) (v2 : Addr) (k2 : ClassId) (n : Nat) (ds : Nat → Int32) (h0 : Heap) (n0 : Nat) (Z0 : n0 ≤ h0.size) (E_a1 : Exa Z h0 a1 "java/lang/StringBuilder") (F_value_a1 : Fld Z h0 a1 "java/lang/AbstractStringBuilder" "value" "[B" (.ref va)) (F_count_a1 : Fld Z h0 a1 "java/lang/AbstractStringBuilder" "count" "I" (.int (Int32.ofNat (cnt)))) (F_coder_a1 : Fld Z h0 a1 "java/lang/AbstractStringBuilder" "coder" "B" (.int (0 : Int32))) (F_maybeLatin1_a1 : Fld Z h0 a1 "java/lang/AbstractStringBuilder" "maybeLatin1" "Z" (.int (0 : Int32))) (V_va : Arv Z h0 va kv .byte (Int32.ofNat (cc)) (List.map Value.int (own_R f cc)) (.int (0 : Int32))) (g_a1 : n0 ≤ a1) (g_va : n0 ≤ va) (E_a2 : Exa Z h0 a2 "java/lang/String") (F_value_a2 : Fld Z h0 a2 "java/lang/String" "value" "[B" (.ref v2)) (F_coder_a2 : Fld Z h0 a2 "java/lang/String" "coder" "B" (.int (1 : Int32))) (V_v2 : Arv Z h0 v2 k2 .byte (Int32.ofNat (2 * n)) (List.map Value.int (own_R (own_u ds) (2 * n))) (.int (0 : Int32))) (nev : va ≠ v2) (O0 : own_Old Z n0 h0) (hST : own_ST Z) (hf : ∀ j, j < cnt → f j = own_lo cs j) (hcl : ∀ j, j < cnt → ¬ (255 : Int32) < cs j) (hch : ∀ j, own_ch (cs j)) (hroom : cnt + n ≤ cc) (hc2 : cc ≤ 64) : own_Met l own_y13 jdk_68_method_73_code 3 none ws ⟨7, 1, 128, 102⟩ #[(.ref a1), (.int (Int32.ofNat (cnt))), (.ref a2)] Z h0 (Qpst_01 Z a1 va kv cc cnt f cs a2 v2 k2 n ds h0 n0) := by
  refine own_met (plainFor_of_name pn_java_lang_AbstractStringBuilder) (fun p e s m below meth c s₁ hx hby hml hrt hlk hZ hown hnm X0 e0 es0 => ?_)
  have N0 := Fr.nil n0
  rw [ef_RIR_3 m a1 (Int32.ofNat (cnt)) a2]
  have Kz := Keep.refl h0 [a1]
  refine own_gk (XS.aloadN X0.here hx rfl (hb hby d13_0) rfl rfl) ?_
  refine own_gk (XS.aloadN X0.here hx rfl (hb hby d13_1) rfl rfl) ?_
  obtain ⟨cq315, q315, q315'⟩ := E_a1.cell
  obtain ⟨_, _, ⟨T315, L315, k315, n315⟩, -, X315, ⟨Lc315, hQ315, l315, y315, z315⟩, st315⟩ := X0.privateBack hx (y := own_y14) hown (mvT hZ (own_h hw 83 rfl)) (mvT hZ (own_h hw 84 rfl)) (own_privSel (mvT hZ (own_h hw 84 rfl)) (mvT hZ (own_h hw 86 rfl)) (Cond.privateMethod_at (mvP hZ (own_h hw 85 rfl) (args := #[]))) (by decide)) (Cond.privateMethod_at (mvP hZ (own_h hw 85 rfl) (args := #[]))) (mvT hZ (own_h hw 87 rfl)) (by decide) (backOf (W := 0) (rmiin_01 l Z a0 hw [] a1 va kv cc cnt f cs a2 h0 n0 Z0 E_a1 F_value_a1 F_count_a1 F_coder_a1 F_maybeLatin1_a1 V_va g_a1 g_va O0 hST hf hcl hch (by omega) hc2 E_a2 F_coder_a2) hZ (own_h hw 87 rfl) (own_h hw 51 rfl) (by decide) (by decide)) (g := (mkF m 2 #[rv a1, iv (Int32.ofNat (cnt)), rv a2] [(.ref a2), (.ref a1)])) rfl (by rw [hml]; rfl) (Steps.refl _) (a := a1) (by rw [e0]; exact q315) q315' (argsL := [(.ref a2)]) (rest := []) (lenOf pd__28_Ljava_2f_lang_2f_String_3b__29_V rfl) rfl (by show 2 * 0 + _ ≤ _; exact Nat.le_of_eq rfl) (hb hby d13_2) (fun _ hv => ⟨rfl, e0, (by decide : 0 + 1 ≤ _), (by decide : 0 + 128 ≤ _)⟩)
  dsimp only [Pt.U, Pt.locs, Pt.cells, Pt.slots] at X315 l315 y315 z315 st315 hQ315
  subst l315 y315 z315
  refine own_go st315 ?_
  obtain ⟨vb_315, kb_315, rfl, Nq315, K315, g_vb_315, sb_vb_315, r315_0, r315_1, r315_2, r315_3, r315_4, r315_5⟩ := hQ315
  have ne_a1_vb_315 : a1 ≠ vb_315 := Nat.ne_of_lt (Nat.lt_of_lt_of_le E_a1.lt sb_vb_315)
  have ne_va_vb_315 : va ≠ vb_315 := Nat.ne_of_lt (Nat.lt_of_lt_of_le V_va.lt sb_vb_315)
  have ne_a2_vb_315 : a2 ≠ vb_315 := Nat.ne_of_lt (Nat.lt_of_lt_of_le E_a2.lt sb_vb_315)
  have ne_v2_vb_315 : v2 ≠ vb_315 := Nat.ne_of_lt (Nat.lt_of_lt_of_le V_v2.lt sb_vb_315)
  have sz_vb_315 : h0.size ≤ vb_315 := Nat.le_trans Kz.1 sb_vb_315
  have Od315 := O0.keep K315 (allS g_a1 all0)
  have E_a1_315 := E_a1.keep K315
  have V_va_315 := V_va.keep K315 (ninS (Ne.symm (Exa.neArv E_a1 V_va (own_h hw 42 rfl))) nin0)
  have E_a2_315 := E_a2.keep K315
  have F_value_a2_315 := F_value_a2.keep K315 (ninS (Exa.ne E_a2 E_a1 (by decide)) nin0)
  have F_coder_a2_315 := F_coder_a2.keep K315 (ninS (Exa.ne E_a2 E_a1 (by decide)) nin0)
  have V_v2_315 := V_v2.keep K315 (ninS (Ne.symm (Exa.neArv E_a1 V_v2 (own_h hw 42 rfl))) nin0)
  have Z315 : n0 ≤ T315.heap.size := Nat.le_trans Z0 K315.1
  have Kt315 := Kz.trans K315 (allS (P := fun x => x ∈ _ ∨ _ ≤ x) (Or.inl (List.mem_of_getElem? (i := 0) rfl)) all0)
  have N315 := Fr.app N0 Nq315
  refine own_gk (XS.aloadN X315.here hx rfl (hb hby d13_5) rfl rfl) ?_
  refine own_gk (XS.aloadN X315.here hx rfl (hb hby d13_6) rfl rfl) ?_
  show own_Fin _ _ _ _ (T315.setTop (mkF m 7 #[rv a1, iv (Int32.ofNat (cnt)), rv a2] [(.ref a1), (.ref a2)]))
  obtain ⟨T316, X316, e316, st316⟩ := getF X315 hx hZ hown (host := "") (Or.inl (own_h hw 55 rfl)) Via.refl rfl r315_1 (g := (mkF m 7 #[rv a1, iv (Int32.ofNat (cnt)), rv a2] [(.ref a1), (.ref a2)])) rfl rfl (hb hby d13_7)
  refine own_by st316 ?_
  refine own_gk (XS.iloadN X316.here hx rfl (hb hby d13_10) rfl) ?_
  refine own_gk (XS.aloadN X316.here hx rfl (hb hby d13_11) rfl rfl) ?_
  obtain ⟨T317, X317, e317, st317⟩ := getF X316 hx hZ hown (host := "") (Or.inl (own_h hw 57 rfl)) Via.refl e316 r315_3 (g := (mkF m 12 #[rv a1, iv (Int32.ofNat (cnt)), rv a2] [(.ref a1), (.int (Int32.ofNat (cnt))), (.ref vb_315), (.ref a2)])) rfl rfl (hb hby d13_12)
  refine own_by st317 ?_
  obtain ⟨_, T318, Lc318, X318, hQ318, st318⟩ := own_callV X317 hx hZ E_a2_315 hown (own_h hw 89 rfl) (own_h hw 90 rfl) (notFace_of_selects (args := #[]) (mvT hZ (own_h hw 92 rfl))) (own_h hw 92 rfl) (own_h hw 91 rfl) (own_h hw 7 rfl) (own_h hw 93 rfl) (by decide) (rmgb_11 l Z a0 hw [] a2 v2 k2 n ds vb_315 kb_315 cc (own_cpf (fun _ => (0 : Int32)) (own_u cs) (2 * 0) 0 (2 * cnt)) cnt T315.heap n0 Z315 E_a2_315 F_value_a2_315 F_coder_a2_315 V_v2_315 r315_5 g_vb_315 ne_v2_vb_315 (by omega) (by omega) Od315 hST) (W := 0) (by decide) (by decide) (g := (mkF m 15 #[rv a1, iv (Int32.ofNat (cnt)), rv a2] [(.int (1 : Int32)), (.int (Int32.ofNat (cnt))), (.ref vb_315), (.ref a2)])) rfl (by rw [hml]; rfl) (argsL := [(.ref vb_315), (.int (Int32.ofNat (cnt))), (.int (1 : Int32))]) (rest := []) (lenOf pd__28__5b_BIB_29_V rfl) rfl (Nat.le_of_eq rfl) (hb hby d13_15) rfl e317 (by decide) (by decide)
  refine own_go st318 ?_
  obtain ⟨rfl, Nq318, K318, r318_0⟩ := hQ318
  have Od318 := Od315.keep K318 (allS g_vb_315 all0)
  have r315_0_318 := r315_0.keep K318
  have V_va_318 := V_va_315.keep K318 (ninS ne_va_vb_315 nin0)
  have E_a2_318 := E_a2_315.keep K318
  have F_value_a2_318 := F_value_a2_315.keep K318 (ninS ne_a2_vb_315 nin0)
  have F_coder_a2_318 := F_coder_a2_315.keep K318 (ninS ne_a2_vb_315 nin0)
  have V_v2_318 := V_v2_315.keep K318 (ninS ne_v2_vb_315 nin0)
  have r315_1_318 := r315_1.keep K318 (ninS ne_a1_vb_315 nin0)
  have r315_2_318 := r315_2.keep K318 (ninS ne_a1_vb_315 nin0)
  have r315_3_318 := r315_3.keep K318 (ninS ne_a1_vb_315 nin0)
  have r315_4_318 := r315_4.keep K318 (ninS ne_a1_vb_315 nin0)
  have Z318 : n0 ≤ T318.heap.size := Nat.le_trans Z315 K318.1
  have Kt318 := Kt315.trans K318 (allS (P := fun x => x ∈ _ ∨ _ ≤ x) (Or.inr sz_vb_315) all0)
  have N318 := Fr.app N315 Nq318
  show own_Fin _ _ _ _ (T318.setTop (mkF m 18 #[rv a1, iv (Int32.ofNat (cnt)), rv a2] []))
  obtain ⟨fs319, hr319, hrun319, hended319, hW319, hsame319⟩ := X318.leave (v := none) (fun _ => rfl)
  refine own_done (X318.returnOut hx hrt (hb hby d13_18) hr319) hrun319 hended319 ⟨_, _, rfl, ?_, ⟨_, rfl⟩, hW319, hsame319.mono (by decide) (by decide)⟩
  show Qpst_01 Z a1 va kv cc cnt f cs a2 v2 k2 n ds h0 n0 _ T318.heap _
  exact ⟨vb_315, kb_315, rfl, N318, Kt318, g_vb_315, sz_vb_315, r315_0_318, r315_1_318, r315_2_318, r315_3_318, r315_4_318, r318_0⟩
def Qap_01 (Z : State) (a1 : Addr) (va : Addr) (kv : ClassId) (cc : Nat) (cnt : Nat) (f : Nat → Int32) (cs : Nat → Int32) (a2 : Addr) (v2 : Addr) (k2 : ClassId) (n : Nat) (ds : Nat → Int32) (h0 : Heap) (n0 : Nat) (v : Option Value) (h : Heap) (L : List Loc) : Prop := ∃ (vb : Jvm.Addr) (kb : ClassId) (fb : Nat → Int32), v = some (.ref a1) ∧ Fr n0 L ∧ Keep h0 h [a1, va] ∧ Exa Z h a1 "java/lang/StringBuilder" ∧ Fld Z h a1 "java/lang/AbstractStringBuilder" "value" "[B" (.ref vb) ∧ Fld Z h a1 "java/lang/AbstractStringBuilder" "count" "I" (.int (Int32.ofNat (cnt + n))) ∧ Fld Z h a1 "java/lang/AbstractStringBuilder" "coder" "B" (.int (1 : Int32)) ∧ Fld Z h a1 "java/lang/AbstractStringBuilder" "maybeLatin1" "Z" (.int (0 : Int32)) ∧ Arv Z h vb kb .byte (Int32.ofNat (2 * (own_cap cc (cnt + n)))) (List.map Value.int (own_R fb (2 * (own_cap cc (cnt + n))))) (.int (0 : Int32)) ∧ (∀ j, j < 2 * (cnt + n) → fb j = own_u (own_app cs cnt ds) j) ∧ n0 ≤ vb ∧ (vb = va ∨ h0.size ≤ vb)
set_option maxRecDepth 65536 in
set_option maxHeartbeats 40000000 in
theorem rmap_01 (l : Launch) (Z : State) (a0 : Array Value) (hw : ∀ d ∈ tables_1, d.before a0 Z = true) (ws : List Jvm.Cond) (a1 : Addr) (va : Addr) (kv : ClassId) (cc : Nat) (cnt : Nat) (f : Nat → Int32) (cs : Nat → Int32) (a2 : Addr) (v2 : Addr) (k2 : ClassId) (n : Nat) (ds : Nat → Int32) (h0 : Heap) (n0 : Nat) (Z0 : n0 ≤ h0.size) (E_a1 : Exa Z h0 a1 "java/lang/StringBuilder") (F_value_a1 : Fld Z h0 a1 "java/lang/AbstractStringBuilder" "value" "[B" (.ref va)) (F_count_a1 : Fld Z h0 a1 "java/lang/AbstractStringBuilder" "count" "I" (.int (Int32.ofNat (cnt)))) (F_coder_a1 : Fld Z h0 a1 "java/lang/AbstractStringBuilder" "coder" "B" (.int (0 : Int32))) (F_maybeLatin1_a1 : Fld Z h0 a1 "java/lang/AbstractStringBuilder" "maybeLatin1" "Z" (.int (0 : Int32))) (V_va : Arv Z h0 va kv .byte (Int32.ofNat (cc)) (List.map Value.int (own_R f cc)) (.int (0 : Int32))) (g_a1 : n0 ≤ a1) (g_va : n0 ≤ va) (E_a2 : Exa Z h0 a2 "java/lang/String") (F_value_a2 : Fld Z h0 a2 "java/lang/String" "value" "[B" (.ref v2)) (F_coder_a2 : Fld Z h0 a2 "java/lang/String" "coder" "B" (.int (1 : Int32))) (V_v2 : Arv Z h0 v2 k2 .byte (Int32.ofNat (2 * n)) (List.map Value.int (own_R (own_u ds) (2 * n))) (.int (0 : Int32))) (nev : va ≠ v2) (O0 : own_Old Z n0 h0) (hST : own_ST Z) (hf : ∀ j, j < cnt → f j = own_lo cs j) (hch : ∀ j, own_ch (cs j)) (hcl : ∀ j, j < cnt → ¬ (255 : Int32) < cs j) (hdc : ∀ j, own_ch (ds j)) (hcn : cnt ≤ cc) (hcc : 16 ≤ cc) (hc2 : cc ≤ 90) (hsum : cnt + n ≤ 64) (hcap : own_cap cc (cnt + n) ≤ 64) : own_Met l own_y11 jdk_68_method_22_code 3 (some (.object "java/lang/AbstractStringBuilder")) ws ⟨8, 2, 384, 116⟩ #[(.ref a1), (.ref a2)] Z h0 (Qap_01 Z a1 va kv cc cnt f cs a2 v2 k2 n ds h0 n0) := by
  refine own_met (plainFor_of_name pn_java_lang_AbstractStringBuilder) (fun p e s m below meth c s₁ hx hby hml hrt hlk hZ hown hnm X0 e0 es0 => ?_)
  have N0 := Fr.nil n0
  rw [ef_RR_3 m a1 a2]
  have Kz := Keep.refl h0 [a1, va]
  by_cases hg : cnt + n ≤ cc
  · rw [own_capN hg] at hcap
    refine own_gk (XS.aloadN X0.here hx rfl (hb hby d11_0) rfl rfl) ?_
    refine own_gk (XS.ifnonnullYes X0.here hx rfl (pc0 := 1) (pc' := 9) rfl (hb hby d11_1) rfl (by decide) (by decide)) ?_
    refine own_gk (XS.aloadN X0.here hx rfl (hb hby d11_9) rfl rfl) ?_
    obtain ⟨_, T320, Lc320, X320, hQ320, st320⟩ := own_callV X0 hx hZ E_a2 hown (own_h hw 70 rfl) (own_h hw 31 rfl) (notFace_of_selects (args := #[]) (mvT hZ (own_h hw 33 rfl))) (own_h hw 33 rfl) (own_h hw 32 rfl) (own_h hw 7 rfl) (own_h hw 34 rfl) (by decide) (rmlenU l Z a0 hw [] a2 v2 k2 (own_u ds) n h0 n0 Z0 E_a2 F_value_a2 F_coder_a2 V_v2 O0 hST (by omega)) (W := 0) (by decide) (by decide) (g := (mkF m 10 #[rv a1, rv a2, .unset] [(.ref a2)])) rfl (by rw [hml]; rfl) (argsL := []) (rest := []) (lenOf pd__28__29_I rfl) rfl (Nat.le_of_eq rfl) (hb hby d11_10) rfl e0 (by decide) (by decide)
    obtain ⟨rfl, Nq320, e320⟩ := hQ320
    refine own_go st320 ?_
    have N320 := Fr.app N0 Nq320
    show own_Fin _ _ _ _ (T320.setTop (mkF m 13 #[rv a1, rv a2, .unset] [(.int (Int32.ofNat (n)))]))
    refine own_gk (XS.istoreN X320.here hx rfl (hb hby d11_13) rfl rfl) ?_
    refine own_gk (XS.aloadN X320.here hx rfl (hb hby d11_14) rfl rfl) ?_
    refine own_gk (XS.aloadN X320.here hx rfl (hb hby d11_15) rfl rfl) ?_
    obtain ⟨T321, X321, e321, st321⟩ := getF X320 hx hZ hown (host := "") (Or.inl (own_h hw 71 rfl)) Via.refl e320 F_count_a1 (g := (mkF m 16 #[rv a1, rv a2, iv (Int32.ofNat (n))] [(.ref a1), (.ref a1)])) rfl rfl (hb hby d11_16)
    refine own_by st321 ?_
    refine own_gk (XS.iloadN X321.here hx rfl (hb hby d11_19) rfl) ?_
    show own_Fin _ _ _ _ (T321.setTop (mkF m 20 #[rv a1, rv a2, iv (Int32.ofNat (n))] [(.int (Int32.ofNat (n))), (.int (Int32.ofNat (cnt))), (.ref a1)]))
    refine own_gk (XS.iadd X321.here hx rfl (hb hby d11_20) rfl) ?_
    show own_Fin _ _ _ _ (T321.setTop (mkF m 21 #[rv a1, rv a2, iv (Int32.ofNat (n))] [(.int ((Int32.ofNat (cnt)) + (Int32.ofNat (n)))), (.ref a1)]))
    rw [show ((Int32.ofNat (cnt)) + (Int32.ofNat (n))) = Int32.ofNat (cnt + n) from (own_addN cnt n)]
    obtain ⟨cq322, q322, q322'⟩ := E_a1.cell
    obtain ⟨_, _, ⟨T322, L322, k322, n322⟩, -, X322, ⟨Lc322, hQ322, l322, y322, z322⟩, st322⟩ := X321.privateBack hx (y := own_y12) hown (mvT hZ (own_h hw 73 rfl)) (mvT hZ (own_h hw 74 rfl)) (own_privSel (mvT hZ (own_h hw 74 rfl)) (mvT hZ (own_h hw 76 rfl)) (Cond.privateMethod_at (mvP hZ (own_h hw 75 rfl) (args := #[]))) (by decide)) (Cond.privateMethod_at (mvP hZ (own_h hw 75 rfl) (args := #[]))) (mvT hZ (own_h hw 77 rfl)) (by decide) (backOf (W := 0) (rmecN_0 l Z a0 hw [] a1 va kv cc cnt f (cnt + n) h0 n0 Z0 E_a1 F_value_a1 F_count_a1 F_coder_a1 F_maybeLatin1_a1 V_va g_a1 g_va hcc hc2 (by omega) (by omega)) hZ (own_h hw 77 rfl) (own_h hw 51 rfl) (by decide) (by decide)) (g := (mkF m 21 #[rv a1, rv a2, iv (Int32.ofNat (n))] [(.int (Int32.ofNat (cnt + n))), (.ref a1)])) rfl (by rw [hml]; rfl) (Steps.refl _) (a := a1) (by rw [e321]; exact q322) q322' (argsL := [(.int (Int32.ofNat (cnt + n)))]) (rest := []) (lenOf pd__28_I_29_V rfl) rfl (by show 2 * 0 + _ ≤ _; exact Nat.le_of_eq rfl) (hb hby d11_21) (fun _ hv => ⟨rfl, e321, (by decide : 0 + 0 ≤ _), (by decide : 0 + 0 ≤ _)⟩)
    dsimp only [Pt.U, Pt.locs, Pt.cells, Pt.slots] at X322 l322 y322 z322 st322 hQ322
    subst l322 y322 z322
    obtain ⟨rfl, Nq322, e322⟩ := hQ322
    refine own_go st322 ?_
    have N322 := Fr.app N320 Nq322
    refine own_gk (XS.aloadN X322.here hx rfl (hb hby d11_24) rfl rfl) ?_
    refine own_gk (XS.aloadN X322.here hx rfl (hb hby d11_25) rfl rfl) ?_
    obtain ⟨T323, X323, e323, st323⟩ := getF X322 hx hZ hown (host := "") (Or.inl (own_h hw 71 rfl)) Via.refl e322 F_count_a1 (g := (mkF m 26 #[rv a1, rv a2, iv (Int32.ofNat (n))] [(.ref a1), (.ref a1)])) rfl rfl (hb hby d11_26)
    refine own_by st323 ?_
    show own_Fin _ _ _ _ (T323.setTop (mkF m 29 #[rv a1, rv a2, iv (Int32.ofNat (n))] [(.int (Int32.ofNat (cnt))), (.ref a1)]))
    refine own_gk (XS.aloadN X323.here hx rfl (hb hby d11_29) rfl rfl) ?_
    obtain ⟨cq324, q324, q324'⟩ := E_a1.cell
    obtain ⟨_, _, ⟨T324, L324, k324, n324⟩, -, X324, ⟨Lc324, hQ324, l324, y324, z324⟩, st324⟩ := X323.privateBack hx (y := own_y13) hown (mvT hZ (own_h hw 78 rfl)) (mvT hZ (own_h hw 79 rfl)) (own_privSel (mvT hZ (own_h hw 79 rfl)) (mvT hZ (own_h hw 81 rfl)) (Cond.privateMethod_at (mvP hZ (own_h hw 80 rfl) (args := #[]))) (by decide)) (Cond.privateMethod_at (mvP hZ (own_h hw 80 rfl) (args := #[]))) (mvT hZ (own_h hw 82 rfl)) (by decide) (backOf (W := 0) (rmpst_01 l Z a0 hw [] a1 va kv cc cnt f cs a2 v2 k2 n ds h0 n0 Z0 E_a1 F_value_a1 F_count_a1 F_coder_a1 F_maybeLatin1_a1 V_va g_a1 g_va E_a2 F_value_a2 F_coder_a2 V_v2 nev O0 hST hf hcl hch (by omega) (by omega)) hZ (own_h hw 82 rfl) (own_h hw 51 rfl) (by decide) (by decide)) (g := (mkF m 30 #[rv a1, rv a2, iv (Int32.ofNat (n))] [(.ref a2), (.int (Int32.ofNat (cnt))), (.ref a1)])) rfl (by rw [hml]; rfl) (Steps.refl _) (a := a1) (by rw [e323]; exact q324) q324' (argsL := [(.int (Int32.ofNat (cnt))), (.ref a2)]) (rest := []) (lenOf pd__28_ILjava_2f_lang_2f_String_3b__29_V rfl) rfl (by show 2 * 0 + _ ≤ _; exact Nat.le_of_eq rfl) (hb hby d11_30) (fun _ hv => ⟨rfl, e323, (by decide : 0 + 1 ≤ _), (by decide : 0 + 128 ≤ _)⟩)
    dsimp only [Pt.U, Pt.locs, Pt.cells, Pt.slots] at X324 l324 y324 z324 st324 hQ324
    subst l324 y324 z324
    refine own_go st324 ?_
    obtain ⟨vb_324, kb_324, rfl, Nq324, K324, g_vb_324, sb_vb_324, r324_0, r324_1, r324_2, r324_3, r324_4, r324_5⟩ := hQ324
    have ne_a1_vb_324 : a1 ≠ vb_324 := Nat.ne_of_lt (Nat.lt_of_lt_of_le E_a1.lt sb_vb_324)
    have ne_va_vb_324 : va ≠ vb_324 := Nat.ne_of_lt (Nat.lt_of_lt_of_le V_va.lt sb_vb_324)
    have ne_a2_vb_324 : a2 ≠ vb_324 := Nat.ne_of_lt (Nat.lt_of_lt_of_le E_a2.lt sb_vb_324)
    have ne_v2_vb_324 : v2 ≠ vb_324 := Nat.ne_of_lt (Nat.lt_of_lt_of_le V_v2.lt sb_vb_324)
    have sz_vb_324 : h0.size ≤ vb_324 := Nat.le_trans Kz.1 sb_vb_324
    have Od324 := O0.keep K324 (allS g_a1 all0)
    have E_a1_324 := E_a1.keep K324
    have V_va_324 := V_va.keep K324 (ninS (Ne.symm (Exa.neArv E_a1 V_va (own_h hw 42 rfl))) nin0)
    have E_a2_324 := E_a2.keep K324
    have F_value_a2_324 := F_value_a2.keep K324 (ninS (Exa.ne E_a2 E_a1 (by decide)) nin0)
    have F_coder_a2_324 := F_coder_a2.keep K324 (ninS (Exa.ne E_a2 E_a1 (by decide)) nin0)
    have V_v2_324 := V_v2.keep K324 (ninS (Ne.symm (Exa.neArv E_a1 V_v2 (own_h hw 42 rfl))) nin0)
    have Z324 : n0 ≤ T324.heap.size := Nat.le_trans Z0 K324.1
    have Kt324 := Kz.trans K324 (allS (P := fun x => x ∈ _ ∨ _ ≤ x) (Or.inl (List.mem_of_getElem? (i := 0) rfl)) all0)
    have N324 := Fr.app N322 Nq324
    refine own_gk (XS.aloadN X324.here hx rfl (hb hby d11_33) rfl rfl) ?_
    refine own_gk (XS.dup X324.here hx rfl (hb hby d11_34) rfl rfl) ?_
    obtain ⟨T325, X325, e325, st325⟩ := getF X324 hx hZ hown (host := "") (Or.inl (own_h hw 71 rfl)) Via.refl rfl r324_2 (g := (mkF m 35 #[rv a1, rv a2, iv (Int32.ofNat (n))] [(.ref a1), (.ref a1)])) rfl rfl (hb hby d11_35)
    refine own_by st325 ?_
    show own_Fin _ _ _ _ (T325.setTop (mkF m 38 #[rv a1, rv a2, iv (Int32.ofNat (n))] [(.int (Int32.ofNat (cnt))), (.ref a1)]))
    refine own_gk (XS.iloadN X325.here hx rfl (hb hby d11_38) rfl) ?_
    refine own_gk (XS.iadd X325.here hx rfl (hb hby d11_39) rfl) ?_
    show own_Fin _ _ _ _ (T325.setTop (mkF m 40 #[rv a1, rv a2, iv (Int32.ofNat (n))] [(.int ((Int32.ofNat (cnt)) + (Int32.ofNat (n)))), (.ref a1)]))
    rw [show ((Int32.ofNat (cnt)) + (Int32.ofNat (n))) = Int32.ofNat (cnt + n) from (own_addN cnt n)]
    obtain ⟨T326, h326, X326, e326, W326, st326⟩ := putF X325 hx hZ hown (host := "") (Or.inl (own_h hw 71 rfl)) Via.refl e325 r324_2 r324_0 (Or.inl (own_h hw 72 rfl)) (own_h hw 42 rfl) (ty := .int) (by decide) rfl rfl (g := (mkF m 40 #[rv a1, rv a2, iv (Int32.ofNat (n))] [(.int (Int32.ofNat (cnt + n))), (.ref a1)])) rfl rfl (hb hby d11_40)
    refine own_by st326 ?_
    have F_count_a1_326 := r324_2.same W326
    have Od326 := Od324.wr W326 g_a1
    have r324_0_326 := r324_0.wr W326
    have V_va_326 := V_va_324.other W326 (Ne.symm (Exa.neArv r324_0 V_va_324 (own_h hw 42 rfl)))
    have E_a2_326 := E_a2_324.wr W326
    have F_value_a2_326 := F_value_a2_324.other W326 (Or.inl (Exa.ne E_a2_324 r324_0 (by decide)))
    have F_coder_a2_326 := F_coder_a2_324.other W326 (Or.inl (Exa.ne E_a2_324 r324_0 (by decide)))
    have V_v2_326 := V_v2_324.other W326 (Ne.symm (Exa.neArv r324_0 V_v2_324 (own_h hw 42 rfl)))
    have r324_1_326 := r324_1.other W326 (Or.inr (slot_ne (Or.inl (own_h hw 56 rfl)) (Or.inl (own_h hw 72 rfl)) (by decide) (t := (.array .byte)) (t' := .int) (by decide) (by decide)))
    have r324_3_326 := r324_3.other W326 (Or.inr (slot_ne (Or.inl (own_h hw 58 rfl)) (Or.inl (own_h hw 72 rfl)) (by decide) (t := .byte) (t' := .int) (by decide) (by decide)))
    have r324_4_326 := r324_4.other W326 (Or.inr (slot_ne (Or.inl (own_h hw 262 rfl)) (Or.inl (own_h hw 72 rfl)) (by decide) (t := .boolean) (t' := .int) (by decide) (by decide)))
    have r324_5_326 := r324_5.other W326 (Ne.symm ne_a1_vb_324)
    have N326 := Fr.snoc X326 N324 g_a1
    have Z326 : n0 ≤ h326.size := Nat.le_trans Z324 (Keep.of_wr W326).1
    have K326 := Kt324.wr W326 (Or.inl (List.mem_of_getElem? (i := 0) rfl))
    refine own_gk (XS.aloadN X326.here hx rfl (hb hby d11_43) rfl rfl) ?_
    obtain ⟨fs327, hr327, hrun327, hended327, hW327, hsame327⟩ := X326.leave (v := some (.ref a1)) (fun h => by rw [hrt] at h; cases h)
    refine own_done (retOut X326 hx hrt rfl (Or.inr (Or.inr (Or.inr (Or.inr ⟨rfl, rfl, rfl⟩)))) (hb hby d11_44) hr327) hrun327 hended327 ⟨_, _, rfl, ?_, ⟨_, rfl⟩, hW327, hsame327.mono (by decide) (by decide)⟩
    show Qap_01 Z a1 va kv cc cnt f cs a2 v2 k2 n ds h0 n0 _ T326.heap _
    rw [e326]
    exact ⟨vb_324, kb_324, (own_cpf (own_cpf (fun _ => (0 : Int32)) (own_u cs) (2 * 0) 0 (2 * cnt)) (own_u ds) (2 * cnt) 0 (2 * n)), rfl, N326, K326, r324_0_326, r324_1_326, F_count_a1_326, r324_3_326, r324_4_326, (by rw [own_capN hg]; exact r324_5_326), (own_appU (fun j hj => own_cpf00 hj)), g_vb_324, (Or.inr sz_vb_324)⟩
  · rw [own_capG hg] at hcap
    refine own_gk (XS.aloadN X0.here hx rfl (hb hby d11_0) rfl rfl) ?_
    refine own_gk (XS.ifnonnullYes X0.here hx rfl (pc0 := 1) (pc' := 9) rfl (hb hby d11_1) rfl (by decide) (by decide)) ?_
    refine own_gk (XS.aloadN X0.here hx rfl (hb hby d11_9) rfl rfl) ?_
    obtain ⟨_, T328, Lc328, X328, hQ328, st328⟩ := own_callV X0 hx hZ E_a2 hown (own_h hw 70 rfl) (own_h hw 31 rfl) (notFace_of_selects (args := #[]) (mvT hZ (own_h hw 33 rfl))) (own_h hw 33 rfl) (own_h hw 32 rfl) (own_h hw 7 rfl) (own_h hw 34 rfl) (by decide) (rmlenU l Z a0 hw [] a2 v2 k2 (own_u ds) n h0 n0 Z0 E_a2 F_value_a2 F_coder_a2 V_v2 O0 hST (by omega)) (W := 0) (by decide) (by decide) (g := (mkF m 10 #[rv a1, rv a2, .unset] [(.ref a2)])) rfl (by rw [hml]; rfl) (argsL := []) (rest := []) (lenOf pd__28__29_I rfl) rfl (Nat.le_of_eq rfl) (hb hby d11_10) rfl e0 (by decide) (by decide)
    obtain ⟨rfl, Nq328, e328⟩ := hQ328
    refine own_go st328 ?_
    have N328 := Fr.app N0 Nq328
    show own_Fin _ _ _ _ (T328.setTop (mkF m 13 #[rv a1, rv a2, .unset] [(.int (Int32.ofNat (n)))]))
    refine own_gk (XS.istoreN X328.here hx rfl (hb hby d11_13) rfl rfl) ?_
    refine own_gk (XS.aloadN X328.here hx rfl (hb hby d11_14) rfl rfl) ?_
    refine own_gk (XS.aloadN X328.here hx rfl (hb hby d11_15) rfl rfl) ?_
    obtain ⟨T329, X329, e329, st329⟩ := getF X328 hx hZ hown (host := "") (Or.inl (own_h hw 71 rfl)) Via.refl e328 F_count_a1 (g := (mkF m 16 #[rv a1, rv a2, iv (Int32.ofNat (n))] [(.ref a1), (.ref a1)])) rfl rfl (hb hby d11_16)
    refine own_by st329 ?_
    refine own_gk (XS.iloadN X329.here hx rfl (hb hby d11_19) rfl) ?_
    show own_Fin _ _ _ _ (T329.setTop (mkF m 20 #[rv a1, rv a2, iv (Int32.ofNat (n))] [(.int (Int32.ofNat (n))), (.int (Int32.ofNat (cnt))), (.ref a1)]))
    refine own_gk (XS.iadd X329.here hx rfl (hb hby d11_20) rfl) ?_
    show own_Fin _ _ _ _ (T329.setTop (mkF m 21 #[rv a1, rv a2, iv (Int32.ofNat (n))] [(.int ((Int32.ofNat (cnt)) + (Int32.ofNat (n)))), (.ref a1)]))
    rw [show ((Int32.ofNat (cnt)) + (Int32.ofNat (n))) = Int32.ofNat (cnt + n) from (own_addN cnt n)]
    obtain ⟨cq330, q330, q330'⟩ := E_a1.cell
    obtain ⟨_, _, ⟨T330, L330, k330, n330⟩, -, X330, ⟨Lc330, hQ330, l330, y330, z330⟩, st330⟩ := X329.privateBack hx (y := own_y12) hown (mvT hZ (own_h hw 73 rfl)) (mvT hZ (own_h hw 74 rfl)) (own_privSel (mvT hZ (own_h hw 74 rfl)) (mvT hZ (own_h hw 76 rfl)) (Cond.privateMethod_at (mvP hZ (own_h hw 75 rfl) (args := #[]))) (by decide)) (Cond.privateMethod_at (mvP hZ (own_h hw 75 rfl) (args := #[]))) (mvT hZ (own_h hw 77 rfl)) (by decide) (backOf (W := 0) (rmecG_0 l Z a0 hw [] a1 va kv cc cnt f (cnt + n) h0 n0 Z0 E_a1 F_value_a1 F_count_a1 F_coder_a1 F_maybeLatin1_a1 V_va g_a1 g_va hcc hc2 (by omega) (by omega) (by omega)) hZ (own_h hw 77 rfl) (own_h hw 51 rfl) (by decide) (by decide)) (g := (mkF m 21 #[rv a1, rv a2, iv (Int32.ofNat (n))] [(.int (Int32.ofNat (cnt + n))), (.ref a1)])) rfl (by rw [hml]; rfl) (Steps.refl _) (a := a1) (by rw [e329]; exact q330) q330' (argsL := [(.int (Int32.ofNat (cnt + n)))]) (rest := []) (lenOf pd__28_I_29_V rfl) rfl (by show 2 * 0 + _ ≤ _; exact Nat.le_of_eq rfl) (hb hby d11_21) (fun _ hv => ⟨rfl, e329, (by decide : 0 + 1 ≤ _), (by decide : 0 + 256 ≤ _)⟩)
    dsimp only [Pt.U, Pt.locs, Pt.cells, Pt.slots] at X330 l330 y330 z330 st330 hQ330
    subst l330 y330 z330
    refine own_go st330 ?_
    obtain ⟨vb_330, kb_330, rfl, Nq330, K330, g_vb_330, sb_vb_330, r330_0, r330_1, r330_2, r330_3, r330_4, r330_5⟩ := hQ330
    have ne_a1_vb_330 : a1 ≠ vb_330 := Nat.ne_of_lt (Nat.lt_of_lt_of_le E_a1.lt sb_vb_330)
    have ne_va_vb_330 : va ≠ vb_330 := Nat.ne_of_lt (Nat.lt_of_lt_of_le V_va.lt sb_vb_330)
    have ne_a2_vb_330 : a2 ≠ vb_330 := Nat.ne_of_lt (Nat.lt_of_lt_of_le E_a2.lt sb_vb_330)
    have ne_v2_vb_330 : v2 ≠ vb_330 := Nat.ne_of_lt (Nat.lt_of_lt_of_le V_v2.lt sb_vb_330)
    have sz_vb_330 : h0.size ≤ vb_330 := Nat.le_trans Kz.1 sb_vb_330
    have Od330 := O0.keep K330 (allS g_a1 all0)
    have E_a1_330 := E_a1.keep K330
    have V_va_330 := V_va.keep K330 (ninS (Ne.symm (Exa.neArv E_a1 V_va (own_h hw 42 rfl))) nin0)
    have E_a2_330 := E_a2.keep K330
    have F_value_a2_330 := F_value_a2.keep K330 (ninS (Exa.ne E_a2 E_a1 (by decide)) nin0)
    have F_coder_a2_330 := F_coder_a2.keep K330 (ninS (Exa.ne E_a2 E_a1 (by decide)) nin0)
    have V_v2_330 := V_v2.keep K330 (ninS (Ne.symm (Exa.neArv E_a1 V_v2 (own_h hw 42 rfl))) nin0)
    have Z330 : n0 ≤ T330.heap.size := Nat.le_trans Z0 K330.1
    have Kt330 := Kz.trans K330 (allS (P := fun x => x ∈ _ ∨ _ ≤ x) (Or.inl (List.mem_of_getElem? (i := 0) rfl)) all0)
    have N330 := Fr.app N328 Nq330
    refine own_gk (XS.aloadN X330.here hx rfl (hb hby d11_24) rfl rfl) ?_
    refine own_gk (XS.aloadN X330.here hx rfl (hb hby d11_25) rfl rfl) ?_
    obtain ⟨T331, X331, e331, st331⟩ := getF X330 hx hZ hown (host := "") (Or.inl (own_h hw 71 rfl)) Via.refl rfl r330_2 (g := (mkF m 26 #[rv a1, rv a2, iv (Int32.ofNat (n))] [(.ref a1), (.ref a1)])) rfl rfl (hb hby d11_26)
    refine own_by st331 ?_
    show own_Fin _ _ _ _ (T331.setTop (mkF m 29 #[rv a1, rv a2, iv (Int32.ofNat (n))] [(.int (Int32.ofNat (cnt))), (.ref a1)]))
    refine own_gk (XS.aloadN X331.here hx rfl (hb hby d11_29) rfl rfl) ?_
    obtain ⟨cq332, q332, q332'⟩ := r330_0.cell
    obtain ⟨_, _, ⟨T332, L332, k332, n332⟩, -, X332, ⟨Lc332, hQ332, l332, y332, z332⟩, st332⟩ := X331.privateBack hx (y := own_y13) hown (mvT hZ (own_h hw 78 rfl)) (mvT hZ (own_h hw 79 rfl)) (own_privSel (mvT hZ (own_h hw 79 rfl)) (mvT hZ (own_h hw 81 rfl)) (Cond.privateMethod_at (mvP hZ (own_h hw 80 rfl) (args := #[]))) (by decide)) (Cond.privateMethod_at (mvP hZ (own_h hw 80 rfl) (args := #[]))) (mvT hZ (own_h hw 82 rfl)) (by decide) (backOf (W := 0) (rmpst_01 l Z a0 hw [] a1 vb_330 kb_330 (max (cnt + n) (2 * cc + 2)) cnt (own_cpf (fun _ => (0 : Int32)) f 0 0 cc) cs a2 v2 k2 n ds T330.heap n0 Z330 r330_0 r330_1 r330_2 r330_3 r330_4 r330_5 g_a1 g_vb_330 E_a2_330 F_value_a2_330 F_coder_a2_330 V_v2_330 (Ne.symm ne_v2_vb_330) Od330 hST (fun j hj => (own_cpf0 (by omega)).trans (hf j hj)) hcl hch (by omega) (by omega)) hZ (own_h hw 82 rfl) (own_h hw 51 rfl) (by decide) (by decide)) (g := (mkF m 30 #[rv a1, rv a2, iv (Int32.ofNat (n))] [(.ref a2), (.int (Int32.ofNat (cnt))), (.ref a1)])) rfl (by rw [hml]; rfl) (Steps.refl _) (a := a1) (by rw [e331]; exact q332) q332' (argsL := [(.int (Int32.ofNat (cnt))), (.ref a2)]) (rest := []) (lenOf pd__28_ILjava_2f_lang_2f_String_3b__29_V rfl) rfl (by show 2 * 0 + _ ≤ _; exact Nat.le_of_eq rfl) (hb hby d11_30) (fun _ hv => ⟨rfl, e331, (by decide : 1 + 1 ≤ _), (by decide : 256 + 128 ≤ _)⟩)
    dsimp only [Pt.U, Pt.locs, Pt.cells, Pt.slots] at X332 l332 y332 z332 st332 hQ332
    subst l332 y332 z332
    refine own_go st332 ?_
    obtain ⟨vb_332, kb_332, rfl, Nq332, K332, g_vb_332, sb_vb_332, r332_0, r332_1, r332_2, r332_3, r332_4, r332_5⟩ := hQ332
    have ne_a1_vb_332 : a1 ≠ vb_332 := Nat.ne_of_lt (Nat.lt_of_lt_of_le r330_0.lt sb_vb_332)
    have ne_va_vb_332 : va ≠ vb_332 := Nat.ne_of_lt (Nat.lt_of_lt_of_le V_va_330.lt sb_vb_332)
    have ne_a2_vb_332 : a2 ≠ vb_332 := Nat.ne_of_lt (Nat.lt_of_lt_of_le E_a2_330.lt sb_vb_332)
    have ne_v2_vb_332 : v2 ≠ vb_332 := Nat.ne_of_lt (Nat.lt_of_lt_of_le V_v2_330.lt sb_vb_332)
    have ne_vb_330_vb_332 : vb_330 ≠ vb_332 := Nat.ne_of_lt (Nat.lt_of_lt_of_le r330_5.lt sb_vb_332)
    have sz_vb_332 : h0.size ≤ vb_332 := Nat.le_trans Kt330.1 sb_vb_332
    have Od332 := Od330.keep K332 (allS g_a1 all0)
    have r330_0_332 := r330_0.keep K332
    have V_va_332 := V_va_330.keep K332 (ninS (Ne.symm (Exa.neArv r330_0 V_va_330 (own_h hw 42 rfl))) nin0)
    have E_a2_332 := E_a2_330.keep K332
    have F_value_a2_332 := F_value_a2_330.keep K332 (ninS (Exa.ne E_a2_330 r330_0 (by decide)) nin0)
    have F_coder_a2_332 := F_coder_a2_330.keep K332 (ninS (Exa.ne E_a2_330 r330_0 (by decide)) nin0)
    have V_v2_332 := V_v2_330.keep K332 (ninS (Ne.symm (Exa.neArv r330_0 V_v2_330 (own_h hw 42 rfl))) nin0)
    have r330_5_332 := r330_5.keep K332 (ninS (Ne.symm ne_a1_vb_330) nin0)
    have Z332 : n0 ≤ T332.heap.size := Nat.le_trans Z330 K332.1
    have Kt332 := Kt330.trans K332 (allS (P := fun x => x ∈ _ ∨ _ ≤ x) (Or.inl (List.mem_of_getElem? (i := 0) rfl)) all0)
    have N332 := Fr.app N330 Nq332
    refine own_gk (XS.aloadN X332.here hx rfl (hb hby d11_33) rfl rfl) ?_
    refine own_gk (XS.dup X332.here hx rfl (hb hby d11_34) rfl rfl) ?_
    obtain ⟨T333, X333, e333, st333⟩ := getF X332 hx hZ hown (host := "") (Or.inl (own_h hw 71 rfl)) Via.refl rfl r332_2 (g := (mkF m 35 #[rv a1, rv a2, iv (Int32.ofNat (n))] [(.ref a1), (.ref a1)])) rfl rfl (hb hby d11_35)
    refine own_by st333 ?_
    show own_Fin _ _ _ _ (T333.setTop (mkF m 38 #[rv a1, rv a2, iv (Int32.ofNat (n))] [(.int (Int32.ofNat (cnt))), (.ref a1)]))
    refine own_gk (XS.iloadN X333.here hx rfl (hb hby d11_38) rfl) ?_
    refine own_gk (XS.iadd X333.here hx rfl (hb hby d11_39) rfl) ?_
    show own_Fin _ _ _ _ (T333.setTop (mkF m 40 #[rv a1, rv a2, iv (Int32.ofNat (n))] [(.int ((Int32.ofNat (cnt)) + (Int32.ofNat (n)))), (.ref a1)]))
    rw [show ((Int32.ofNat (cnt)) + (Int32.ofNat (n))) = Int32.ofNat (cnt + n) from (own_addN cnt n)]
    obtain ⟨T334, h334, X334, e334, W334, st334⟩ := putF X333 hx hZ hown (host := "") (Or.inl (own_h hw 71 rfl)) Via.refl e333 r332_2 r332_0 (Or.inl (own_h hw 72 rfl)) (own_h hw 42 rfl) (ty := .int) (by decide) rfl rfl (g := (mkF m 40 #[rv a1, rv a2, iv (Int32.ofNat (n))] [(.int (Int32.ofNat (cnt + n))), (.ref a1)])) rfl rfl (hb hby d11_40)
    refine own_by st334 ?_
    have F_count_a1_334 := r332_2.same W334
    have Od334 := Od332.wr W334 g_a1
    have r332_0_334 := r332_0.wr W334
    have V_va_334 := V_va_332.other W334 (Ne.symm (Exa.neArv r332_0 V_va_332 (own_h hw 42 rfl)))
    have E_a2_334 := E_a2_332.wr W334
    have F_value_a2_334 := F_value_a2_332.other W334 (Or.inl (Exa.ne E_a2_332 r332_0 (by decide)))
    have F_coder_a2_334 := F_coder_a2_332.other W334 (Or.inl (Exa.ne E_a2_332 r332_0 (by decide)))
    have V_v2_334 := V_v2_332.other W334 (Ne.symm (Exa.neArv r332_0 V_v2_332 (own_h hw 42 rfl)))
    have r330_5_334 := r330_5_332.other W334 (Ne.symm ne_a1_vb_330)
    have r332_1_334 := r332_1.other W334 (Or.inr (slot_ne (Or.inl (own_h hw 56 rfl)) (Or.inl (own_h hw 72 rfl)) (by decide) (t := (.array .byte)) (t' := .int) (by decide) (by decide)))
    have r332_3_334 := r332_3.other W334 (Or.inr (slot_ne (Or.inl (own_h hw 58 rfl)) (Or.inl (own_h hw 72 rfl)) (by decide) (t := .byte) (t' := .int) (by decide) (by decide)))
    have r332_4_334 := r332_4.other W334 (Or.inr (slot_ne (Or.inl (own_h hw 262 rfl)) (Or.inl (own_h hw 72 rfl)) (by decide) (t := .boolean) (t' := .int) (by decide) (by decide)))
    have r332_5_334 := r332_5.other W334 (Ne.symm ne_a1_vb_332)
    have N334 := Fr.snoc X334 N332 g_a1
    have Z334 : n0 ≤ h334.size := Nat.le_trans Z332 (Keep.of_wr W334).1
    have K334 := Kt332.wr W334 (Or.inl (List.mem_of_getElem? (i := 0) rfl))
    refine own_gk (XS.aloadN X334.here hx rfl (hb hby d11_43) rfl rfl) ?_
    obtain ⟨fs335, hr335, hrun335, hended335, hW335, hsame335⟩ := X334.leave (v := some (.ref a1)) (fun h => by rw [hrt] at h; cases h)
    refine own_done (retOut X334 hx hrt rfl (Or.inr (Or.inr (Or.inr (Or.inr ⟨rfl, rfl, rfl⟩)))) (hb hby d11_44) hr335) hrun335 hended335 ⟨_, _, rfl, ?_, ⟨_, rfl⟩, hW335, hsame335.mono (by decide) (by decide)⟩
    show Qap_01 Z a1 va kv cc cnt f cs a2 v2 k2 n ds h0 n0 _ T334.heap _
    rw [e334]
    exact ⟨vb_332, kb_332, (own_cpf (own_cpf (fun _ => (0 : Int32)) (own_u cs) (2 * 0) 0 (2 * cnt)) (own_u ds) (2 * cnt) 0 (2 * n)), rfl, N334, K334, r332_0_334, r332_1_334, F_count_a1_334, r332_3_334, r332_4_334, (by rw [own_capG hg]; exact r332_5_334), (own_appU (fun j hj => own_cpf00 hj)), g_vb_332, (Or.inr sz_vb_332)⟩
def Qsap_01 (Z : State) (a1 : Addr) (va : Addr) (kv : ClassId) (cc : Nat) (cnt : Nat) (f : Nat → Int32) (cs : Nat → Int32) (a2 : Addr) (v2 : Addr) (k2 : ClassId) (n : Nat) (ds : Nat → Int32) (h0 : Heap) (n0 : Nat) (v : Option Value) (h : Heap) (L : List Loc) : Prop := ∃ (vb : Jvm.Addr) (kb : ClassId) (fb : Nat → Int32), v = some (.ref a1) ∧ Fr n0 L ∧ Keep h0 h [a1, va] ∧ Exa Z h a1 "java/lang/StringBuilder" ∧ Fld Z h a1 "java/lang/AbstractStringBuilder" "value" "[B" (.ref vb) ∧ Fld Z h a1 "java/lang/AbstractStringBuilder" "count" "I" (.int (Int32.ofNat (cnt + n))) ∧ Fld Z h a1 "java/lang/AbstractStringBuilder" "coder" "B" (.int (1 : Int32)) ∧ Fld Z h a1 "java/lang/AbstractStringBuilder" "maybeLatin1" "Z" (.int (0 : Int32)) ∧ Arv Z h vb kb .byte (Int32.ofNat (2 * (own_cap cc (cnt + n)))) (List.map Value.int (own_R fb (2 * (own_cap cc (cnt + n))))) (.int (0 : Int32)) ∧ (∀ j, j < 2 * (cnt + n) → fb j = own_u (own_app cs cnt ds) j) ∧ n0 ≤ vb ∧ (vb = va ∨ h0.size ≤ vb)
set_option maxRecDepth 65536 in
set_option maxHeartbeats 40000000 in
theorem rmsap_01 (l : Launch) (Z : State) (a0 : Array Value) (hw : ∀ d ∈ tables_1, d.before a0 Z = true) (ws : List Jvm.Cond) (a1 : Addr) (va : Addr) (kv : ClassId) (cc : Nat) (cnt : Nat) (f : Nat → Int32) (cs : Nat → Int32) (a2 : Addr) (v2 : Addr) (k2 : ClassId) (n : Nat) (ds : Nat → Int32) (h0 : Heap) (n0 : Nat) (Z0 : n0 ≤ h0.size) (E_a1 : Exa Z h0 a1 "java/lang/StringBuilder") (F_value_a1 : Fld Z h0 a1 "java/lang/AbstractStringBuilder" "value" "[B" (.ref va)) (F_count_a1 : Fld Z h0 a1 "java/lang/AbstractStringBuilder" "count" "I" (.int (Int32.ofNat (cnt)))) (F_coder_a1 : Fld Z h0 a1 "java/lang/AbstractStringBuilder" "coder" "B" (.int (0 : Int32))) (F_maybeLatin1_a1 : Fld Z h0 a1 "java/lang/AbstractStringBuilder" "maybeLatin1" "Z" (.int (0 : Int32))) (V_va : Arv Z h0 va kv .byte (Int32.ofNat (cc)) (List.map Value.int (own_R f cc)) (.int (0 : Int32))) (g_a1 : n0 ≤ a1) (g_va : n0 ≤ va) (E_a2 : Exa Z h0 a2 "java/lang/String") (F_value_a2 : Fld Z h0 a2 "java/lang/String" "value" "[B" (.ref v2)) (F_coder_a2 : Fld Z h0 a2 "java/lang/String" "coder" "B" (.int (1 : Int32))) (V_v2 : Arv Z h0 v2 k2 .byte (Int32.ofNat (2 * n)) (List.map Value.int (own_R (own_u ds) (2 * n))) (.int (0 : Int32))) (nev : va ≠ v2) (O0 : own_Old Z n0 h0) (hST : own_ST Z) (hf : ∀ j, j < cnt → f j = own_lo cs j) (hch : ∀ j, own_ch (cs j)) (hcl : ∀ j, j < cnt → ¬ (255 : Int32) < cs j) (hdc : ∀ j, own_ch (ds j)) (hcn : cnt ≤ cc) (hcc : 16 ≤ cc) (hc2 : cc ≤ 90) (hsum : cnt + n ≤ 64) (hcap : own_cap cc (cnt + n) ≤ 64) : own_Met l own_y10 jdk_67_method_7_code 2 (some (.object "java/lang/StringBuilder")) ws ⟨9, 2, 384, 130⟩ #[(.ref a1), (.ref a2)] Z h0 (Qsap_01 Z a1 va kv cc cnt f cs a2 v2 k2 n ds h0 n0) := by
  refine own_met (plainFor_of_name pn_java_lang_StringBuilder) (fun p e s m below meth c s₁ hx hby hml hrt hlk hZ hown hnm X0 e0 es0 => ?_)
  have N0 := Fr.nil n0
  rw [ef_RR_2 m a1 a2]
  have Kz := Keep.refl h0 [a1, va]
  refine own_gk (XS.aloadN X0.here hx rfl (hb hby d10_0) rfl rfl) ?_
  refine own_gk (XS.aloadN X0.here hx rfl (hb hby d10_1) rfl rfl) ?_
  obtain ⟨cq336, kq336, q336a, q336b, q336c⟩ := isOf hZ e0 E_a1
  obtain ⟨_, _, ⟨T336, L336, k336, n336⟩, -, X336, ⟨Lc336, hQ336, l336, y336, z336⟩, st336⟩ := own_upBack X0 hx (x := own_y11) hown (mvT hZ (own_h hw 65 rfl)) (mvT hZ (own_h hw 66 rfl)) (mvT hZ (own_h hw 67 rfl)) (mvT hZ (own_h hw 69 rfl)) (mvT hZ (own_h hw 76 rfl)) rfl (by decide) (by decide) q336a q336c (backOf (W := 0) (rmap_01 l Z a0 hw [] a1 va kv cc cnt f cs a2 v2 k2 n ds h0 n0 Z0 E_a1 F_value_a1 F_count_a1 F_coder_a1 F_maybeLatin1_a1 V_va g_a1 g_va E_a2 F_value_a2 F_coder_a2 V_v2 nev O0 hST hf hch hcl hdc hcn hcc hc2 hsum hcap) hZ (own_h hw 69 rfl) (own_h hw 51 rfl) (by decide) (by decide)) (g := (mkF m 2 #[rv a1, rv a2] [(.ref a2), (.ref a1)])) rfl (by rw [hml]; rfl) (Steps.refl _) (argsL := [(.ref a2)]) (rest := []) (lenOf pd__28_Ljava_2f_lang_2f_String_3b__29_Ljava_2f_lang_2f_AbstractStringBuilder_3b_ rfl) rfl (by show 2 * 0 + _ ≤ _; exact Nat.le_of_eq rfl) (hb hby d10_2) (fun _ hv => ⟨rfl, e0, (by decide : 0 + 2 ≤ _), (by decide : 0 + 384 ≤ _)⟩)
  dsimp only [Pt.U, Pt.locs, Pt.cells, Pt.slots] at X336 l336 y336 z336 st336 hQ336
  subst l336 y336 z336
  refine own_go st336 ?_
  obtain ⟨vb_336, kb_336, fb_336, rfl, Nq336, K336, r336_0, r336_1, r336_2, r336_3, r336_4, r336_5, r336_6, r336_7, r336_8⟩ := hQ336
  have Od336 := O0.keep K336 (allS g_a1 (allS g_va all0))
  have E_a1_336 := E_a1.keep K336
  have E_a2_336 := E_a2.keep K336
  have F_value_a2_336 := F_value_a2.keep K336 (ninS (Exa.ne E_a2 E_a1 (by decide)) (ninS (Exa.neArv E_a2 V_va (own_h hw 6 rfl)) nin0))
  have F_coder_a2_336 := F_coder_a2.keep K336 (ninS (Exa.ne E_a2 E_a1 (by decide)) (ninS (Exa.neArv E_a2 V_va (own_h hw 6 rfl)) nin0))
  have V_v2_336 := V_v2.keep K336 (ninS (Ne.symm (Exa.neArv E_a1 V_v2 (own_h hw 42 rfl))) (ninS (Ne.symm nev) nin0))
  have Z336 : n0 ≤ T336.heap.size := Nat.le_trans Z0 K336.1
  have Kt336 := Kz.trans K336 (allS (P := fun x => x ∈ _ ∨ _ ≤ x) (Or.inl (List.mem_of_getElem? (i := 0) rfl)) (allS (P := fun x => x ∈ _ ∨ _ ≤ x) (Or.inl (List.mem_of_getElem? (i := 1) rfl)) all0))
  have N336 := Fr.app N0 Nq336
  refine own_gk (XS.pop X336.here hx rfl (hb hby d10_5) rfl rfl) ?_
  refine own_gk (XS.aloadN X336.here hx rfl (hb hby d10_6) rfl rfl) ?_
  show own_Fin _ _ _ _ (T336.setTop (mkF m 7 #[rv a1, rv a2] [(.ref a1)]))
  obtain ⟨fs337, hr337, hrun337, hended337, hW337, hsame337⟩ := X336.leave (v := some (.ref a1)) (fun h => by rw [hrt] at h; cases h)
  refine own_done (retOut X336 hx hrt rfl (Or.inr (Or.inr (Or.inr (Or.inr ⟨rfl, rfl, rfl⟩)))) (hb hby d10_7) hr337) hrun337 hended337 ⟨_, _, rfl, ?_, ⟨_, rfl⟩, hW337, hsame337.mono (by decide) (by decide)⟩
  show Qsap_01 Z a1 va kv cc cnt f cs a2 v2 k2 n ds h0 n0 _ T336.heap _
  exact ⟨vb_336, kb_336, fb_336, rfl, N336, Kt336, r336_0, r336_1, r336_2, r336_3, r336_4, r336_5, r336_6, r336_7, r336_8⟩
def Qcl (Z : State) (M : Nat) (h0 : Heap) (n0 : Nat) (v : Option Value) (h : Heap) (L : List Loc) : Prop := v = none ∧ Fr n0 L ∧ h = h0
theorem d25_0 : decode jdk_65_method_131_code 0 = .ok (.iload_n 1, 1) := by decide +kernel
theorem d25_1 : decode jdk_65_method_131_code 1 = .ok (.iload_n 0, 1) := by decide +kernel
theorem d25_2 : decode jdk_65_method_131_code 2 = .ok (.if_icmp .ge 35, 3) := by decide +kernel
theorem d25_37 : decode jdk_65_method_131_code 37 = .ok (.return_, 1) := by decide +kernel
set_option maxRecDepth 65536 in
set_option maxHeartbeats 40000000 in
theorem rmcl (l : Launch) (Z : State) (a0 : Array Value) (hw : ∀ d ∈ tables_1, d.before a0 Z = true) (ws : List Jvm.Cond) (M : Nat) (h0 : Heap) (n0 : Nat) (Z0 : n0 ≤ h0.size) (hM : M ≤ 128) : own_Met l own_y25 jdk_65_method_131_code 2 none ws ⟨0, 0, 0, 0⟩ #[(.int (0 : Int32)), (.int (Int32.ofNat (M)))] Z h0 (Qcl Z M h0 n0) := by
  refine own_met (plainFor_of_name pn_java_util_Arrays) (fun p e s m below meth c s₁ hx hby hml hrt hlk hZ hown hnm X0 e0 es0 => ?_)
  have N0 := Fr.nil n0
  rw [ef_II_2 m (0 : Int32) (Int32.ofNat (M))]
  refine own_gk (XS.iloadN X0.here hx rfl (hb hby d25_0) rfl) ?_
  refine own_gk (XS.iloadN X0.here hx rfl (hb hby d25_1) rfl) ?_
  refine own_gk (XS.icmpYes X0.here hx rfl (pc0 := 2) (pc' := 37) rfl (hb hby d25_2) rfl (flt (show ¬ ((Int32.ofNat (M)) < (0 : Int32)) from (fun q => absurd ((own_ltN (a := M) (b := 0) (by omega) (by omega)).mp q) (by omega)))).2.1 (by decide) (by decide)) ?_
  obtain ⟨fs338, hr338, hrun338, hended338, hW338, hsame338⟩ := X0.leave (v := none) (fun _ => rfl)
  refine own_done (X0.returnOut hx hrt (hb hby d25_37) hr338) hrun338 hended338 ⟨_, _, rfl, ?_, ⟨_, rfl⟩, hW338, hsame338.mono (by decide) (by decide)⟩
  show Qcl Z M h0 n0 _ s₁.heap _
  rw [e0]
  exact ⟨rfl, N0, rfl⟩
def Qcorb (Z : State) (a1 : Addr) (k : ClassId) (LL : Nat) (f : Nat → Int32) (M : Nat) (h0 : Heap) (n0 : Nat) (v : Option Value) (h : Heap) (L : List Loc) : Prop := ∃ (b : Addr) (kb : ClassId), v = some (.ref b) ∧ Fr n0 L ∧ Keep h0 h [] ∧ n0 ≤ b ∧ h0.size ≤ b ∧ Arv Z h b kb .byte (Int32.ofNat (M)) (List.map Value.int (own_R f M)) (.int (0 : Int32))
theorem d24_0 : decode jdk_65_method_133_code 0 = .ok (.iload_n 1, 1) := by decide +kernel
theorem d24_1 : decode jdk_65_method_133_code 1 = .ok (.iload_n 2, 1) := by decide +kernel
theorem d24_2 : decode jdk_65_method_133_code 2 = .ok (.invokestatic 343, 3) := by decide +kernel
theorem d24_5 : decode jdk_65_method_133_code 5 = .ok (.iload_n 2, 1) := by decide +kernel
theorem d24_6 : decode jdk_65_method_133_code 6 = .ok (.iload_n 1, 1) := by decide +kernel
theorem d24_7 : decode jdk_65_method_133_code 7 = .ok (.isub, 1) := by decide +kernel
theorem d24_8 : decode jdk_65_method_133_code 8 = .ok (.istore_n 3, 1) := by decide +kernel
theorem d24_9 : decode jdk_65_method_133_code 9 = .ok (.iload_n 3, 1) := by decide +kernel
theorem d24_10 : decode jdk_65_method_133_code 10 = .ok (.newarray .byte, 2) := by decide +kernel
theorem d24_12 : decode jdk_65_method_133_code 12 = .ok (.astore 4, 2) := by decide +kernel
theorem d24_14 : decode jdk_65_method_133_code 14 = .ok (.aload_n 0, 1) := by decide +kernel
theorem d24_15 : decode jdk_65_method_133_code 15 = .ok (.iload_n 1, 1) := by decide +kernel
theorem d24_16 : decode jdk_65_method_133_code 16 = .ok (.aload 4, 2) := by decide +kernel
theorem d24_18 : decode jdk_65_method_133_code 18 = .ok (.iconst 0, 1) := by decide +kernel
theorem d24_19 : decode jdk_65_method_133_code 19 = .ok (.aload_n 0, 1) := by decide +kernel
theorem d24_20 : decode jdk_65_method_133_code 20 = .ok (.arraylength, 1) := by decide +kernel
theorem d24_21 : decode jdk_65_method_133_code 21 = .ok (.iload_n 1, 1) := by decide +kernel
theorem d24_22 : decode jdk_65_method_133_code 22 = .ok (.isub, 1) := by decide +kernel
theorem d24_23 : decode jdk_65_method_133_code 23 = .ok (.iload_n 3, 1) := by decide +kernel
theorem d24_24 : decode jdk_65_method_133_code 24 = .ok (.invokestatic 304, 3) := by decide +kernel
theorem d24_27 : decode jdk_65_method_133_code 27 = .ok (.invokestatic 150, 3) := by decide +kernel
theorem d24_30 : decode jdk_65_method_133_code 30 = .ok (.aload 4, 2) := by decide +kernel
theorem d24_32 : decode jdk_65_method_133_code 32 = .ok (.areturn, 1) := by decide +kernel
set_option maxRecDepth 65536 in
set_option maxHeartbeats 40000000 in
theorem rmcorb (l : Launch) (Z : State) (a0 : Array Value) (hw : ∀ d ∈ tables_1, d.before a0 Z = true) (ws : List Jvm.Cond) (a1 : Addr) (k : ClassId) (LL : Nat) (f : Nat → Int32) (M : Nat) (h0 : Heap) (n0 : Nat) (Z0 : n0 ≤ h0.size) (V_a1 : Arv Z h0 a1 k .byte (Int32.ofNat (LL)) (List.map Value.int (own_R f LL)) (.int (0 : Int32))) (hL : LL ≤ 256) (hML : M < LL) (hM : M ≤ 128) : own_Met l own_y24 jdk_65_method_133_code 5 (some (.array .byte)) ws ⟨1, 1, 128, 40⟩ #[(.ref a1), (.int (0 : Int32)), (.int (Int32.ofNat (M)))] Z h0 (Qcorb Z a1 k LL f M h0 n0) := by
  refine own_met (plainFor_of_name pn_java_util_Arrays) (fun p e s m below meth c s₁ hx hby hml hrt hlk hZ hown hnm X0 e0 es0 => ?_)
  have N0 := Fr.nil n0
  rw [ef_RII_5 m a1 (0 : Int32) (Int32.ofNat (M))]
  have Kz := Keep.refl h0 []
  refine own_gk (XS.iloadN X0.here hx rfl (hb hby d24_0) rfl) ?_
  refine own_gk (XS.iloadN X0.here hx rfl (hb hby d24_1) rfl) ?_
  obtain ⟨_, T339, Lc339, X339, hQ339, st339⟩ := own_callS X0 hx hZ hown (own_h hw 135 rfl) (own_h hw 136 rfl) (own_h hw 130 rfl) (own_h hw 137 rfl) (by decide) (rmcl l Z a0 hw [] M h0 n0 Z0 hM) (W := 0) (by decide) (by decide) (g := (mkF m 2 #[rv a1, iv (0 : Int32), iv (Int32.ofNat (M)), .unset, .unset] [(.int (Int32.ofNat (M))), (.int (0 : Int32))])) rfl (by rw [hml]; rfl) (argsL := [(.int (0 : Int32)), (.int (Int32.ofNat (M)))]) (rest := []) (lenOf pd__28_II_29_V rfl) rfl (Nat.le_of_eq rfl) (hb hby d24_2) rfl e0 (by decide) (by decide)
  obtain ⟨rfl, Nq339, e339⟩ := hQ339
  refine own_go st339 ?_
  have N339 := Fr.app N0 Nq339
  refine own_gk (XS.iloadN X339.here hx rfl (hb hby d24_5) rfl) ?_
  refine own_gk (XS.iloadN X339.here hx rfl (hb hby d24_6) rfl) ?_
  show own_Fin _ _ _ _ (T339.setTop (mkF m 7 #[rv a1, iv (0 : Int32), iv (Int32.ofNat (M)), .unset, .unset] [(.int (0 : Int32)), (.int (Int32.ofNat (M)))]))
  refine own_gk (XS.isub X339.here hx rfl (hb hby d24_7) rfl) ?_
  show own_Fin _ _ _ _ (T339.setTop (mkF m 8 #[rv a1, iv (0 : Int32), iv (Int32.ofNat (M)), .unset, .unset] [(.int ((Int32.ofNat (M)) - (0 : Int32)))]))
  rw [show ((Int32.ofNat (M)) - (0 : Int32)) = Int32.ofNat (M) from ((own_subN (a := M) (b := 0) (by omega)).trans (congrArg Int32.ofNat (by omega)))]
  refine own_gk (XS.istoreN X339.here hx rfl (hb hby d24_8) rfl rfl) ?_
  refine own_gk (XS.iloadN X339.here hx rfl (hb hby d24_9) rfl) ?_
  obtain ⟨T340, h340, k340, X340, e340, E340, A340, st340⟩ := newP X339 hx hZ (own_h hw 19 rfl) e339 (g := (mkF m 10 #[rv a1, iv (0 : Int32), iv (Int32.ofNat (M)), iv (Int32.ofNat (M)), .unset] [(.int (Int32.ofNat (M)))])) rfl (hb hby d24_10) (n := (Int32.ofNat (M))) rfl (own_nn (a := M) (by omega)) (cap := 128) (Nat.le_trans (Nat.le_of_eq (own_tn (a := M) (by omega))) (by omega)) (by decide) (by decide) (by decide)
  obtain ⟨b340, g340⟩ : ∃ z, z = h0.size := ⟨_, rfl⟩
  rw [← g340] at A340 st340
  refine own_by st340 ?_
  have ne_a1_b340 : a1 ≠ b340 := Nat.ne_of_lt (Nat.lt_of_lt_of_eq V_a1.lt g340.symm)
  have V_a1_340 := V_a1.ext E340
  have g_b340 : n0 ≤ b340 := Nat.le_trans Z0 (Nat.le_of_eq g340.symm)
  have sz_b340 : h0.size ≤ b340 := Nat.le_trans Kz.1 (Nat.le_of_eq g340.symm)
  have K340 := Kz.ext E340
  have Z340 : n0 ≤ h340.size := Nat.le_trans Z0 E340.1
  have V_b340 : Arv Z h340 b340 k340 .byte (Int32.ofNat (M)) (List.map Value.int (own_R ((fun _ => (0 : Int32))) M)) (.int (0 : Int32)) := (Arv.new A340 (own_nn (a := M) (by omega))).pad (own_pad0 _)
  refine own_gk (XS.astore X340.here hx rfl (hb hby d24_12) rfl rfl rfl) ?_
  show own_Fin _ _ _ _ (T340.setTop (mkF m 14 #[rv a1, iv (0 : Int32), iv (Int32.ofNat (M)), iv (Int32.ofNat (M)), rv b340] []))
  refine own_gk (XS.aloadN X340.here hx rfl (hb hby d24_14) rfl rfl) ?_
  refine own_gk (XS.iloadN X340.here hx rfl (hb hby d24_15) rfl) ?_
  refine own_gk (XS.aload X340.here hx rfl (hb hby d24_16) rfl rfl) ?_
  refine own_gk (XS.iconst X340.here hx rfl (hb hby d24_18)) ?_
  refine own_gk (XS.aloadN X340.here hx rfl (hb hby d24_19) rfl rfl) ?_
  show own_Fin _ _ _ _ (T340.setTop (mkF m 20 #[rv a1, iv (0 : Int32), iv (Int32.ofNat (M)), iv (Int32.ofNat (M)), rv b340] [(.ref a1), (.int (0 : Int32)), (.ref b340), (.int (0 : Int32)), (.ref a1)]))
  obtain ⟨cl341, Ar341, qa341, Sa341, Na341, Ha341, Ga341⟩ := id V_a1_340
  refine own_by (X340.arraylength hx (by rw [e340]; exact Ar341.1) (State.isArrayOf_alike hZ.alike Ar341.2.1) (g := (mkF m 20 #[rv a1, iv (0 : Int32), iv (Int32.ofNat (M)), iv (Int32.ofNat (M)), rv b340] [(.ref a1), (.int (0 : Int32)), (.ref b340), (.int (0 : Int32)), (.ref a1)])) rfl rfl (hb hby d24_20)) ?_
  rw [len_of Sa341 Na341]
  refine own_gk (XS.iloadN X340.here hx rfl (hb hby d24_21) rfl) ?_
  refine own_gk (XS.isub X340.here hx rfl (hb hby d24_22) rfl) ?_
  show own_Fin _ _ _ _ (T340.setTop (mkF m 23 #[rv a1, iv (0 : Int32), iv (Int32.ofNat (M)), iv (Int32.ofNat (M)), rv b340] [(.int ((Int32.ofNat (LL)) - (0 : Int32))), (.int (0 : Int32)), (.ref b340), (.int (0 : Int32)), (.ref a1)]))
  rw [show ((Int32.ofNat (LL)) - (0 : Int32)) = Int32.ofNat (LL) from ((own_subN (a := LL) (b := 0) (by omega)).trans (congrArg Int32.ofNat (by omega)))]
  refine own_gk (XS.iloadN X340.here hx rfl (hb hby d24_23) rfl) ?_
  obtain ⟨_, T342, Lc342, X342, hQ342, st342⟩ := own_callS X340 hx hZ hown (own_h hw 138 rfl) (own_h hw 139 rfl) (own_h hw 140 rfl) (own_h hw 141 rfl) (by decide) (rmmn2 l Z a0 hw [] LL M h340 n0 Z340 (by omega) (by omega) hML) (W := 4) (by decide) (by decide) (g := (mkF m 24 #[rv a1, iv (0 : Int32), iv (Int32.ofNat (M)), iv (Int32.ofNat (M)), rv b340] [(.int (Int32.ofNat (M))), (.int (Int32.ofNat (LL))), (.int (0 : Int32)), (.ref b340), (.int (0 : Int32)), (.ref a1)])) rfl (by rw [hml]; rfl) (argsL := [(.int (Int32.ofNat (LL))), (.int (Int32.ofNat (M)))]) (rest := [(.int (0 : Int32)), (.ref b340), (.int (0 : Int32)), (.ref a1)]) (lenOf pd__28_II_29_I rfl) rfl (Nat.le_of_eq rfl) (hb hby d24_24) rfl e340 (by decide) (by decide)
  obtain ⟨rfl, Nq342, e342⟩ := hQ342
  refine own_go st342 ?_
  have N342 := Fr.app N339 Nq342
  obtain ⟨T343, _, L343, X343, rfl, N343, K343, Vc343, st343⟩ := cpA X342 hx hZ hown (own_h hw 142 rfl) (own_h hw 97 rfl) (own_h hw 95 rfl) (own_h hw 96 rfl) e342 V_a1_340 V_b340 (Or.inl ⟨rfl, rfl⟩) (own_nn (a := 0) (by omega)) (own_nn (a := 0) (by omega)) (own_nn (a := M) (by omega)) (own_le3 (a := 0) (b := M) (c := LL) (by omega) (by omega) (by omega) (by omega)) (own_le3 (a := 0) (b := M) (c := M) (by omega) (by omega) (by omega) (by omega)) rfl (own_le2 (a := 0) (b := M) (n := M) (by omega) (by omega) (by omega)) N342 g_b340 (g := (mkF m 27 #[rv a1, iv (0 : Int32), iv (Int32.ofNat (M)), iv (Int32.ofNat (M)), rv b340] [(.int (Int32.ofNat (M))), (.int (0 : Int32)), (.ref b340), (.int (0 : Int32)), (.ref a1)])) rfl (by rw [hml]; rfl) rfl (hb hby d24_27) (by decide) (W := 0) (by show 2 * 0 + _ ≤ _; exact Nat.le_of_eq rfl) (by decide)
  refine own_by st343 ?_
  have V_a1_343 := V_a1_340.keep K343 (ninS ne_a1_b340 nin0)
  have Z343 : n0 ≤ T343.heap.size := Nat.le_trans Z340 K343.1
  have Kt343 := K340.trans K343 (allS (P := fun x => x ∈ _ ∨ _ ≤ x) (Or.inr sz_b340) all0)
  have V_b340_c343 : Arv Z T343.heap b340 k340 .byte (Int32.ofNat (M)) (List.map Value.int (own_R (own_cpf ((fun _ => (0 : Int32))) f 0 0 M) M)) (.int (0 : Int32)) := own_arvc Vc343 (own_cpR (f := f) (g := (fun _ => (0 : Int32))) (n := LL) (m := M) (sp := 0) (dp := 0) (nn := M) (by omega) (by omega) (by omega) (by omega))
  refine own_gk (XS.aload X343.here hx rfl (hb hby d24_30) rfl rfl) ?_
  show own_Fin _ _ _ _ (T343.setTop (mkF m 32 #[rv a1, iv (0 : Int32), iv (Int32.ofNat (M)), iv (Int32.ofNat (M)), rv b340] [(.ref b340)]))
  obtain ⟨fs344, hr344, hrun344, hended344, hW344, hsame344⟩ := X343.leave (v := some (.ref b340)) (fun h => by rw [hrt] at h; cases h)
  refine own_done (retOut X343 hx hrt rfl (Or.inr (Or.inr (Or.inr (Or.inr ⟨rfl, rfl, rfl⟩)))) (hb hby d24_32) hr344) hrun344 hended344 ⟨_, _, rfl, ?_, ⟨_, rfl⟩, hW344, hsame344.mono (by decide) (by decide)⟩
  show Qcorb Z a1 k LL f M h0 n0 _ T343.heap _
  exact ⟨b340, k340, rfl, N343, Kt343, g_b340, sz_b340, (own_arvm V_b340_c343 (own_congR (f := own_cpf (fun _ => (0 : Int32)) f 0 0 M) (g := f) (n := M) (fun j hj => own_cpf0 hj)))⟩
def Qcor (Z : State) (a1 : Addr) (k : ClassId) (LL : Nat) (f : Nat → Int32) (M : Nat) (h0 : Heap) (n0 : Nat) (v : Option Value) (h : Heap) (L : List Loc) : Prop := ∃ (b : Addr) (kb : ClassId), v = some (.ref b) ∧ Fr n0 L ∧ Keep h0 h [] ∧ n0 ≤ b ∧ h0.size ≤ b ∧ Arv Z h b kb .byte (Int32.ofNat (M)) (List.map Value.int (own_R f M)) (.int (0 : Int32))
theorem d23_0 : decode jdk_65_method_132_code 0 = .ok (.iload_n 1, 1) := by decide +kernel
theorem d23_1 : decode jdk_65_method_132_code 1 = .ok (.ifCond .ne 9, 3) := by decide +kernel
theorem d23_4 : decode jdk_65_method_132_code 4 = .ok (.iload_n 2, 1) := by decide +kernel
theorem d23_5 : decode jdk_65_method_132_code 5 = .ok (.aload_n 0, 1) := by decide +kernel
theorem d23_6 : decode jdk_65_method_132_code 6 = .ok (.arraylength, 1) := by decide +kernel
theorem d23_7 : decode jdk_65_method_132_code 7 = .ok (.if_icmp .eq 10, 3) := by decide +kernel
theorem d23_10 : decode jdk_65_method_132_code 10 = .ok (.aload_n 0, 1) := by decide +kernel
theorem d23_11 : decode jdk_65_method_132_code 11 = .ok (.iload_n 1, 1) := by decide +kernel
theorem d23_12 : decode jdk_65_method_132_code 12 = .ok (.iload_n 2, 1) := by decide +kernel
theorem d23_13 : decode jdk_65_method_132_code 13 = .ok (.invokestatic 339, 3) := by decide +kernel
theorem pd__28__5b_BII_29__5b_B : parseMethodDescriptor "([BII)[B" = some ⟨[(.array .byte), .int, .int], some (.array .byte)⟩ := by decide +kernel
theorem d23_16 : decode jdk_65_method_132_code 16 = .ok (.areturn, 1) := by decide +kernel
set_option maxRecDepth 65536 in
set_option maxHeartbeats 40000000 in
theorem rmcor (l : Launch) (Z : State) (a0 : Array Value) (hw : ∀ d ∈ tables_1, d.before a0 Z = true) (ws : List Jvm.Cond) (a1 : Addr) (k : ClassId) (LL : Nat) (f : Nat → Int32) (M : Nat) (h0 : Heap) (n0 : Nat) (Z0 : n0 ≤ h0.size) (V_a1 : Arv Z h0 a1 k .byte (Int32.ofNat (LL)) (List.map Value.int (own_R f LL)) (.int (0 : Int32))) (hL : LL ≤ 256) (hML : M < LL) (hM : M ≤ 128) : own_Met l own_y23 jdk_65_method_132_code 3 (some (.array .byte)) ws ⟨2, 1, 128, 56⟩ #[(.ref a1), (.int (0 : Int32)), (.int (Int32.ofNat (M)))] Z h0 (Qcor Z a1 k LL f M h0 n0) := by
  refine own_met (plainFor_of_name pn_java_util_Arrays) (fun p e s m below meth c s₁ hx hby hml hrt hlk hZ hown hnm X0 e0 es0 => ?_)
  have N0 := Fr.nil n0
  rw [ef_RII_3 m a1 (0 : Int32) (Int32.ofNat (M))]
  have Kz := Keep.refl h0 []
  refine own_gk (XS.iloadN X0.here hx rfl (hb hby d23_0) rfl) ?_
  refine own_gk (XS.ifNo X0.here hx rfl (hb hby d23_1) rfl ((if0 _ _).trans (teq (by decide : (0 : Int32) = (0 : Int32))).2)) ?_
  refine own_gk (XS.iloadN X0.here hx rfl (hb hby d23_4) rfl) ?_
  refine own_gk (XS.aloadN X0.here hx rfl (hb hby d23_5) rfl rfl) ?_
  obtain ⟨cl345, Ar345, qa345, Sa345, Na345, Ha345, Ga345⟩ := id V_a1
  refine own_by (X0.arraylength hx (by rw [e0]; exact Ar345.1) (State.isArrayOf_alike hZ.alike Ar345.2.1) (g := (mkF m 6 #[rv a1, iv (0 : Int32), iv (Int32.ofNat (M))] [(.ref a1), (.int (Int32.ofNat (M)))])) rfl rfl (hb hby d23_6)) ?_
  rw [len_of Sa345 Na345]
  show own_Fin _ _ _ _ (s₁.setTop (mkF m 7 #[rv a1, iv (0 : Int32), iv (Int32.ofNat (M))] [(.int (Int32.ofNat (LL))), (.int (Int32.ofNat (M)))]))
  refine own_gk (XS.icmpNo X0.here hx rfl (hb hby d23_7) rfl (feq (show ¬ ((Int32.ofNat (M)) = (Int32.ofNat (LL))) from (fun q => absurd ((own_eqN (a := M) (b := LL) (by omega) (by omega)).mp q) (by omega)))).1) ?_
  refine own_gk (XS.aloadN X0.here hx rfl (hb hby d23_10) rfl rfl) ?_
  refine own_gk (XS.iloadN X0.here hx rfl (hb hby d23_11) rfl) ?_
  refine own_gk (XS.iloadN X0.here hx rfl (hb hby d23_12) rfl) ?_
  obtain ⟨_, T346, Lc346, X346, hQ346, st346⟩ := own_callS X0 hx hZ hown (own_h hw 132 rfl) (own_h hw 133 rfl) (own_h hw 130 rfl) (own_h hw 134 rfl) (by decide) (rmcorb l Z a0 hw [] a1 k LL f M h0 n0 Z0 V_a1 hL hML hM) (W := 0) (by decide) (by decide) (g := (mkF m 13 #[rv a1, iv (0 : Int32), iv (Int32.ofNat (M))] [(.int (Int32.ofNat (M))), (.int (0 : Int32)), (.ref a1)])) rfl (by rw [hml]; rfl) (argsL := [(.ref a1), (.int (0 : Int32)), (.int (Int32.ofNat (M)))]) (rest := []) (lenOf pd__28__5b_BII_29__5b_B rfl) rfl (Nat.le_of_eq rfl) (hb hby d23_13) rfl e0 (by decide) (by decide)
  refine own_go st346 ?_
  obtain ⟨b_346, kb_346, rfl, Nq346, K346, g_b_346, sb_b_346, r346_0⟩ := hQ346
  have ne_a1_b_346 : a1 ≠ b_346 := Nat.ne_of_lt (Nat.lt_of_lt_of_le V_a1.lt sb_b_346)
  have sz_b_346 : h0.size ≤ b_346 := Nat.le_trans Kz.1 sb_b_346
  have V_a1_346 := V_a1.keep K346 nin0
  have Z346 : n0 ≤ T346.heap.size := Nat.le_trans Z0 K346.1
  have Kt346 := Kz.trans K346 all0
  have N346 := Fr.app N0 Nq346
  show own_Fin _ _ _ _ (T346.setTop (mkF m 16 #[rv a1, iv (0 : Int32), iv (Int32.ofNat (M))] [(.ref b_346)]))
  obtain ⟨fs347, hr347, hrun347, hended347, hW347, hsame347⟩ := X346.leave (v := some (.ref b_346)) (fun h => by rw [hrt] at h; cases h)
  refine own_done (retOut X346 hx hrt rfl (Or.inr (Or.inr (Or.inr (Or.inr ⟨rfl, rfl, rfl⟩)))) (hb hby d23_16) hr347) hrun347 hended347 ⟨_, _, rfl, ?_, ⟨_, rfl⟩, hW347, hsame347.mono (by decide) (by decide)⟩
  show Qcor Z a1 k LL f M h0 n0 _ T346.heap _
  exact ⟨b_346, kb_346, rfl, N346, Kt346, g_b_346, sz_b_346, r346_0⟩
theorem own_nf {s : State} {args : Array Value} {K : String} {y w w' : MethodName} (hsel : (Cond.selects K w w').before args s = true) (hw : w'.cls = y.cls) : NotFace s y := fun r0 h0 => by
  obtain ⟨c2, r2, m2, -, -, q3, -, kP, hkP, hkPi⟩ := Cond.selects_spec hsel
  have e1 : s.vm.findClass y.cls = some m2.cls := hw ▸ findClass_of_methodNamed q3
  have e2 : m2.cls = r0.cls := Option.some.inj (e1.symm.trans (findClass_of_methodNamed h0))
  exact ⟨kP, e2 ▸ hkP, hkPi⟩
theorem ef_RR0_5 (m : MethodId) (x0 : Addr) (x1 : Addr) : entryFrame m #[(.ref x0), (.ref x1), .null] 5 = mkF m 0 #[.val (.ref x0), .val (.ref x1), .val .null, .unset, .unset] [] := by first | (simp [entryFrame, mkF, argsToLocals, Value.category]; done) | rfl
def Qtsi_0 (Z : State) (a1 : Addr) (a2 : Addr) (va : Addr) (kv : ClassId) (cc : Nat) (cnt : Nat) (f : Nat → Int32) (cs : Nat → Int32) (h0 : Heap) (n0 : Nat) (v : Option Value) (h : Heap) (L : List Loc) : Prop := v = none ∧ Fr n0 L ∧ Keep h0 h [a1] ∧ own_Str Z h a1 cnt cs
theorem d18_0 : decode jdk_42_method_150_code 0 = .ok (.aload_n 0, 1) := by decide +kernel
theorem d18_1 : decode jdk_42_method_150_code 1 = .ok (.invokespecial 1, 3) := by decide +kernel
theorem d18_4 : decode jdk_42_method_150_code 4 = .ok (.aload_n 1, 1) := by decide +kernel
theorem d18_5 : decode jdk_42_method_150_code 5 = .ok (.invokevirtual 552, 3) := by decide +kernel
theorem pd__28__29__5b_B : parseMethodDescriptor "()[B" = some ⟨[], some (.array .byte)⟩ := by decide +kernel
theorem d18_8 : decode jdk_42_method_150_code 8 = .ok (.astore_n 3, 1) := by decide +kernel
theorem d18_9 : decode jdk_42_method_150_code 9 = .ok (.aload_n 1, 1) := by decide +kernel
theorem d18_10 : decode jdk_42_method_150_code 10 = .ok (.invokevirtual 549, 3) := by decide +kernel
theorem d18_13 : decode jdk_42_method_150_code 13 = .ok (.istore 4, 2) := by decide +kernel
theorem d18_15 : decode jdk_42_method_150_code 15 = .ok (.aload_n 1, 1) := by decide +kernel
theorem d18_16 : decode jdk_42_method_150_code 16 = .ok (.invokevirtual 1047, 3) := by decide +kernel
theorem d18_19 : decode jdk_42_method_150_code 19 = .ok (.ifCond .eq 22, 3) := by decide +kernel
theorem d18_22 : decode jdk_42_method_150_code 22 = .ok (.aload_n 0, 1) := by decide +kernel
theorem d18_23 : decode jdk_42_method_150_code 23 = .ok (.iconst 0, 1) := by decide +kernel
theorem d18_24 : decode jdk_42_method_150_code 24 = .ok (.putfield 15, 3) := by decide +kernel
theorem d18_27 : decode jdk_42_method_150_code 27 = .ok (.aload_n 0, 1) := by decide +kernel
theorem d18_28 : decode jdk_42_method_150_code 28 = .ok (.aload_n 3, 1) := by decide +kernel
theorem d18_29 : decode jdk_42_method_150_code 29 = .ok (.iconst 0, 1) := by decide +kernel
theorem d18_30 : decode jdk_42_method_150_code 30 = .ok (.iload 4, 2) := by decide +kernel
theorem d18_32 : decode jdk_42_method_150_code 32 = .ok (.invokestatic 54, 3) := by decide +kernel
theorem d18_35 : decode jdk_42_method_150_code 35 = .ok (.putfield 9, 3) := by decide +kernel
theorem d18_38 : decode jdk_42_method_150_code 38 = .ok (.goto 59, 3) := by decide +kernel
theorem d18_97 : decode jdk_42_method_150_code 97 = .ok (.return_, 1) := by decide +kernel
set_option maxRecDepth 65536 in
set_option maxHeartbeats 40000000 in
theorem rmtsi_0 (l : Launch) (Z : State) (a0 : Array Value) (hw : ∀ d ∈ tables_1, d.before a0 Z = true) (ws : List Jvm.Cond) (a1 : Addr) (a2 : Addr) (va : Addr) (kv : ClassId) (cc : Nat) (cnt : Nat) (f : Nat → Int32) (cs : Nat → Int32) (h0 : Heap) (n0 : Nat) (Z0 : n0 ≤ h0.size) (E_a1 : Exa Z h0 a1 "java/lang/String") (F_value_a1 : Fld Z h0 a1 "java/lang/String" "value" "[B" .null) (F_coder_a1 : Fld Z h0 a1 "java/lang/String" "coder" "B" (.int (0 : Int32))) (g_a1 : n0 ≤ a1) (E_a2 : Exa Z h0 a2 "java/lang/StringBuilder") (F_value_a2 : Fld Z h0 a2 "java/lang/AbstractStringBuilder" "value" "[B" (.ref va)) (F_count_a2 : Fld Z h0 a2 "java/lang/AbstractStringBuilder" "count" "I" (.int (Int32.ofNat (cnt)))) (F_coder_a2 : Fld Z h0 a2 "java/lang/AbstractStringBuilder" "coder" "B" (.int (0 : Int32))) (F_maybeLatin1_a2 : Fld Z h0 a2 "java/lang/AbstractStringBuilder" "maybeLatin1" "Z" (.int (0 : Int32))) (V_va : Arv Z h0 va kv .byte (Int32.ofNat (cc)) (List.map Value.int (own_R f cc)) (.int (0 : Int32))) (hf : ∀ j, j < cnt → f j = own_lo cs j) (hcc : cc ≤ 128) (hcn : cnt < cc) (hc6 : cnt ≤ 64) (O0 : own_Old Z n0 h0) (hST : own_ST Z) (hcl : ∀ j, j < cnt → ¬ (255 : Int32) < cs j) : own_Met l own_y18 jdk_42_method_150_code 5 none ws ⟨3, 1, 128, 71⟩ #[(.ref a1), (.ref a2), .null] Z h0 (Qtsi_0 Z a1 a2 va kv cc cnt f cs h0 n0) := by
  refine own_met (plainFor_of_name pn_java_lang_String) (fun p e s m below meth c s₁ hx hby hml hrt hlk hZ hown hnm X0 e0 es0 => ?_)
  have N0 := Fr.nil n0
  rw [ef_RR0_5 m a1 a2]
  have Kz := Keep.refl h0 [a1]
  obtain ⟨ct, sv, hct, hsv, S__assertionsDisabled, S_HI_BYTE_SHIFT, S_LO_BYTE_SHIFT, S_COMPACT_STRINGS, S_SIOOBE_FORMATTER⟩ := id hST
  refine own_gk (XS.aloadN X0.here hx rfl (hb hby d18_0) rfl rfl) ?_
  obtain ⟨T348, X348, e348, st348⟩ := initO X0 hx hZ hown (own_h hw 15 rfl) (own_h hw 16 rfl) (own_h hw 17 rfl) e0 (g := (mkF m 1 #[rv a1, rv a2, .val .null, .unset, .unset] [(.ref a1)])) rfl (by rw [hml]; rfl) rfl (hb hby d18_1) (by decide) (W := 0) (by show 2 * 0 + _ ≤ _; exact Nat.le_of_eq rfl) (by decide)
  refine own_by st348 ?_
  refine own_gk (XS.aloadN X348.here hx rfl (hb hby d18_4) rfl rfl) ?_
  obtain ⟨_, T349, Lc349, X349, hQ349, st349⟩ := own_callV X348 hx hZ E_a2 hown (own_h hw 110 rfl) (own_h hw 111 rfl) (notFace_of_selects (args := #[]) (mvT hZ (own_h hw 113 rfl))) (own_h hw 113 rfl) (own_h hw 112 rfl) (own_h hw 51 rfl) (own_h hw 114 rfl) (by decide) (rmgv l Z a0 hw [] a2 va h0 n0 Z0 F_value_a2) (W := 0) (by decide) (by decide) (g := (mkF m 5 #[rv a1, rv a2, .val .null, .unset, .unset] [(.ref a2)])) rfl (by rw [hml]; rfl) (argsL := []) (rest := []) (lenOf pd__28__29__5b_B rfl) rfl (Nat.le_of_eq rfl) (hb hby d18_5) rfl e348 (by decide) (by decide)
  obtain ⟨rfl, Nq349, e349⟩ := hQ349
  refine own_go st349 ?_
  have N349 := Fr.app N0 Nq349
  refine own_gk (XS.astoreN X349.here hx rfl (hb hby d18_8) rfl rfl rfl) ?_
  show own_Fin _ _ _ _ (T349.setTop (mkF m 9 #[rv a1, rv a2, .val .null, rv va, .unset] []))
  refine own_gk (XS.aloadN X349.here hx rfl (hb hby d18_9) rfl rfl) ?_
  obtain ⟨_, T350, Lc350, X350, hQ350, st350⟩ := own_callV X349 hx hZ E_a2 hown (own_h hw 115 rfl) (own_h hw 116 rfl) (own_nf (args := #[]) (mvT hZ (own_h hw 113 rfl)) rfl) (own_h hw 118 rfl) (own_h hw 119 rfl) (own_h hw 43 rfl) (own_h hw 120 rfl) (by decide) (rmsl l Z a0 hw [] a2 cnt h0 n0 Z0 E_a2 F_count_a2) (W := 0) (by decide) (by decide) (g := (mkF m 10 #[rv a1, rv a2, .val .null, rv va, .unset] [(.ref a2)])) rfl (by rw [hml]; rfl) (argsL := []) (rest := []) (lenOf pd__28__29_I rfl) rfl (Nat.le_of_eq rfl) (hb hby d18_10) rfl e349 (by decide) (by decide)
  obtain ⟨rfl, Nq350, e350⟩ := hQ350
  refine own_go st350 ?_
  have N350 := Fr.app N349 Nq350
  refine own_gk (XS.istore X350.here hx rfl (hb hby d18_13) rfl rfl) ?_
  refine own_gk (XS.aloadN X350.here hx rfl (hb hby d18_15) rfl rfl) ?_
  obtain ⟨_, T351, Lc351, X351, hQ351, st351⟩ := own_callV X350 hx hZ E_a2 hown (own_h hw 123 rfl) (own_h hw 124 rfl) (notFace_of_selects (args := #[]) (mvT hZ (own_h hw 126 rfl))) (own_h hw 126 rfl) (own_h hw 125 rfl) (own_h hw 51 rfl) (own_h hw 127 rfl) (by decide) (rmasl_0 l Z a0 hw [] a2 h0 n0 Z0 F_coder_a2 O0 hST) (W := 0) (by decide) (by decide) (g := (mkF m 16 #[rv a1, rv a2, .val .null, rv va, iv (Int32.ofNat (cnt))] [(.ref a2)])) rfl (by rw [hml]; rfl) (argsL := []) (rest := []) (lenOf pd__28__29_Z rfl) rfl (Nat.le_of_eq rfl) (hb hby d18_16) rfl e350 (by decide) (by decide)
  obtain ⟨rfl, Nq351, e351⟩ := hQ351
  refine own_go st351 ?_
  have N351 := Fr.app N350 Nq351
  show own_Fin _ _ _ _ (T351.setTop (mkF m 19 #[rv a1, rv a2, .val .null, rv va, iv (Int32.ofNat (cnt))] [(.int (1 : Int32))]))
  refine own_gk (XS.ifNo X351.here hx rfl (hb hby d18_19) rfl ((if0 _ _).trans (feq (by decide : ¬ ((1 : Int32) = (0 : Int32)))).1)) ?_
  refine own_gk (XS.aloadN X351.here hx rfl (hb hby d18_22) rfl rfl) ?_
  refine own_gk (XS.iconst X351.here hx rfl (hb hby d18_23)) ?_
  obtain ⟨T352, h352, X352, e352, W352, st352⟩ := putFN X351 hx hZ hown (own_h hw 25 rfl) Via.refl e351 F_coder_a1 E_a1 (Or.inr ⟨(own_h hw 21 rfl), rfl, hnm⟩) (own_h hw 6 rfl) (ty := .byte) (v' := (.int (nar .byte (0 : Int32)))) (by decide) rfl (fits_nar_byte _) (g := (mkF m 24 #[rv a1, rv a2, .val .null, rv va, iv (Int32.ofNat (cnt))] [(.int (0 : Int32)), (.ref a1)])) rfl rfl (hb hby d18_24)
  refine own_by st352 ?_
  have F_coder_a1_352 := F_coder_a1.same W352
  have Od352 := O0.wr W352 g_a1
  have E_a1_352 := E_a1.wr W352
  have F_value_a1_352 := F_value_a1.other W352 (Or.inr (slot_ne (Or.inr (own_h hw 20 rfl)) (Or.inr (own_h hw 21 rfl)) (by decide) (t := (.array .byte)) (t' := .byte) (by decide) (by decide)))
  have E_a2_352 := E_a2.wr W352
  have F_value_a2_352 := F_value_a2.other W352 (Or.inl (Exa.ne E_a2 E_a1 (by decide)))
  have F_count_a2_352 := F_count_a2.other W352 (Or.inl (Exa.ne E_a2 E_a1 (by decide)))
  have F_coder_a2_352 := F_coder_a2.other W352 (Or.inl (Exa.ne E_a2 E_a1 (by decide)))
  have F_maybeLatin1_a2_352 := F_maybeLatin1_a2.other W352 (Or.inl (Exa.ne E_a2 E_a1 (by decide)))
  have V_va_352 := V_va.other W352 (Ne.symm (Exa.neArv E_a1 V_va (own_h hw 6 rfl)))
  have N352 := Fr.snoc X352 N351 g_a1
  have Z352 : n0 ≤ h352.size := Nat.le_trans Z0 (Keep.of_wr W352).1
  have K352 := Kz.wr W352 (Or.inl (List.mem_of_getElem? (i := 0) rfl))
  refine own_gk (XS.aloadN X352.here hx rfl (hb hby d18_27) rfl rfl) ?_
  show own_Fin _ _ _ _ (T352.setTop (mkF m 28 #[rv a1, rv a2, .val .null, rv va, iv (Int32.ofNat (cnt))] [(.ref a1)]))
  refine own_gk (XS.aloadN X352.here hx rfl (hb hby d18_28) rfl rfl) ?_
  refine own_gk (XS.iconst X352.here hx rfl (hb hby d18_29)) ?_
  refine own_gk (XS.iload X352.here hx rfl (hb hby d18_30) rfl) ?_
  obtain ⟨_, T353, Lc353, X353, hQ353, st353⟩ := own_callS X352 hx hZ hown (own_h hw 128 rfl) (own_h hw 129 rfl) (own_h hw 130 rfl) (own_h hw 131 rfl) (by decide) (rmcor l Z a0 hw [] va kv cc f cnt h352 n0 Z352 V_va_352 (by omega) (by omega) (by omega)) (W := 1) (by decide) (by decide) (g := (mkF m 32 #[rv a1, rv a2, .val .null, rv va, iv (Int32.ofNat (cnt))] [(.int (Int32.ofNat (cnt))), (.int (0 : Int32)), (.ref va), (.ref a1)])) rfl (by rw [hml]; rfl) (argsL := [(.ref va), (.int (0 : Int32)), (.int (Int32.ofNat (cnt)))]) (rest := [(.ref a1)]) (lenOf pd__28__5b_BII_29__5b_B rfl) rfl (Nat.le_of_eq rfl) (hb hby d18_32) rfl e352 (by decide) (by decide)
  refine own_go st353 ?_
  obtain ⟨b_353, kb_353, rfl, Nq353, K353, g_b_353, sb_b_353, r353_0⟩ := hQ353
  have ne_a1_b_353 : a1 ≠ b_353 := Nat.ne_of_lt (Nat.lt_of_lt_of_le E_a1_352.lt sb_b_353)
  have ne_a2_b_353 : a2 ≠ b_353 := Nat.ne_of_lt (Nat.lt_of_lt_of_le E_a2_352.lt sb_b_353)
  have ne_va_b_353 : va ≠ b_353 := Nat.ne_of_lt (Nat.lt_of_lt_of_le V_va_352.lt sb_b_353)
  have sz_b_353 : h0.size ≤ b_353 := Nat.le_trans K352.1 sb_b_353
  have Od353 := Od352.keep K353 all0
  have E_a1_353 := E_a1_352.keep K353
  have F_value_a1_353 := F_value_a1_352.keep K353 nin0
  have F_coder_a1_353 := F_coder_a1_352.keep K353 nin0
  have E_a2_353 := E_a2_352.keep K353
  have F_value_a2_353 := F_value_a2_352.keep K353 nin0
  have F_count_a2_353 := F_count_a2_352.keep K353 nin0
  have F_coder_a2_353 := F_coder_a2_352.keep K353 nin0
  have F_maybeLatin1_a2_353 := F_maybeLatin1_a2_352.keep K353 nin0
  have V_va_353 := V_va_352.keep K353 nin0
  have Z353 : n0 ≤ T353.heap.size := Nat.le_trans Z352 K353.1
  have Kt353 := K352.trans K353 all0
  have N353 := Fr.app N352 Nq353
  obtain ⟨T354, h354, X354, e354, W354, st354⟩ := putF X353 hx hZ hown (host := "") (Or.inl (own_h hw 24 rfl)) Via.refl rfl F_value_a1_353 E_a1_353 (Or.inr ⟨(own_h hw 20 rfl), rfl, hnm⟩) (own_h hw 6 rfl) (ty := (.array .byte)) (by decide) rfl rfl (g := (mkF m 35 #[rv a1, rv a2, .val .null, rv va, iv (Int32.ofNat (cnt))] [(.ref b_353), (.ref a1)])) rfl rfl (hb hby d18_35)
  refine own_by st354 ?_
  have F_value_a1_354 := F_value_a1_353.same W354
  have Od354 := Od353.wr W354 g_a1
  have E_a1_354 := E_a1_353.wr W354
  have F_coder_a1_354 := F_coder_a1_353.other W354 (Or.inr (slot_ne (Or.inr (own_h hw 21 rfl)) (Or.inr (own_h hw 20 rfl)) (by decide) (t := .byte) (t' := (.array .byte)) (by decide) (by decide)))
  have E_a2_354 := E_a2_353.wr W354
  have F_value_a2_354 := F_value_a2_353.other W354 (Or.inl (Exa.ne E_a2_353 E_a1_353 (by decide)))
  have F_count_a2_354 := F_count_a2_353.other W354 (Or.inl (Exa.ne E_a2_353 E_a1_353 (by decide)))
  have F_coder_a2_354 := F_coder_a2_353.other W354 (Or.inl (Exa.ne E_a2_353 E_a1_353 (by decide)))
  have F_maybeLatin1_a2_354 := F_maybeLatin1_a2_353.other W354 (Or.inl (Exa.ne E_a2_353 E_a1_353 (by decide)))
  have V_va_354 := V_va_353.other W354 (Ne.symm (Exa.neArv E_a1_353 V_va_353 (own_h hw 6 rfl)))
  have r353_0_354 := r353_0.other W354 (Ne.symm ne_a1_b_353)
  have N354 := Fr.snoc X354 N353 g_a1
  have Z354 : n0 ≤ h354.size := Nat.le_trans Z353 (Keep.of_wr W354).1
  have K354 := Kt353.wr W354 (Or.inl (List.mem_of_getElem? (i := 0) rfl))
  show own_Fin _ _ _ _ (T354.setTop (mkF m 38 #[rv a1, rv a2, .val .null, rv va, iv (Int32.ofNat (cnt))] []))
  refine own_gk (XS.goto X354.here hx rfl (pc0 := 38) (pc' := 97) rfl (hb hby d18_38) (by decide) (by decide)) ?_
  obtain ⟨fs355, hr355, hrun355, hended355, hW355, hsame355⟩ := X354.leave (v := none) (fun _ => rfl)
  refine own_done (X354.returnOut hx hrt (hb hby d18_97) hr355) hrun355 hended355 ⟨_, _, rfl, ?_, ⟨_, rfl⟩, hW355, hsame355.mono (by decide) (by decide)⟩
  show Qtsi_0 Z a1 a2 va kv cc cnt f cs h0 n0 _ T354.heap _
  rw [e354]
  exact ⟨rfl, N354, K354, ⟨E_a1_354, b_353, kb_353, F_value_a1_354, Or.inl ⟨F_coder_a1_354, hcl, (own_arvm r353_0_354 (own_congR (f := f) (g := own_lo cs) (n := cnt) hf))⟩⟩⟩
def Qtsb_0 (Z : State) (a1 : Addr) (a2 : Addr) (va : Addr) (kv : ClassId) (cc : Nat) (cnt : Nat) (f : Nat → Int32) (cs : Nat → Int32) (h0 : Heap) (n0 : Nat) (v : Option Value) (h : Heap) (L : List Loc) : Prop := v = none ∧ Fr n0 L ∧ Keep h0 h [a1] ∧ own_Str Z h a1 cnt cs
theorem d17_0 : decode jdk_42_method_53_code 0 = .ok (.aload_n 0, 1) := by decide +kernel
theorem d17_1 : decode jdk_42_method_53_code 1 = .ok (.aload_n 1, 1) := by decide +kernel
theorem d17_2 : decode jdk_42_method_53_code 2 = .ok (.aconst_null, 1) := by decide +kernel
theorem d17_3 : decode jdk_42_method_53_code 3 = .ok (.invokespecial 489, 3) := by decide +kernel
theorem pd__28_Ljava_2f_lang_2f_AbstractStringBuilder_3b_Ljava_2f_lang_2f_Void_3b__29_V : parseMethodDescriptor "(Ljava/lang/AbstractStringBuilder;Ljava/lang/Void;)V" = some ⟨[(.object "java/lang/AbstractStringBuilder"), (.object "java/lang/Void")], none⟩ := by decide +kernel
theorem d17_6 : decode jdk_42_method_53_code 6 = .ok (.return_, 1) := by decide +kernel
set_option maxRecDepth 65536 in
set_option maxHeartbeats 40000000 in
theorem rmtsb_0 (l : Launch) (Z : State) (a0 : Array Value) (hw : ∀ d ∈ tables_1, d.before a0 Z = true) (ws : List Jvm.Cond) (a1 : Addr) (a2 : Addr) (va : Addr) (kv : ClassId) (cc : Nat) (cnt : Nat) (f : Nat → Int32) (cs : Nat → Int32) (h0 : Heap) (n0 : Nat) (Z0 : n0 ≤ h0.size) (E_a1 : Exa Z h0 a1 "java/lang/String") (F_value_a1 : Fld Z h0 a1 "java/lang/String" "value" "[B" .null) (F_coder_a1 : Fld Z h0 a1 "java/lang/String" "coder" "B" (.int (0 : Int32))) (g_a1 : n0 ≤ a1) (E_a2 : Exa Z h0 a2 "java/lang/StringBuilder") (F_value_a2 : Fld Z h0 a2 "java/lang/AbstractStringBuilder" "value" "[B" (.ref va)) (F_count_a2 : Fld Z h0 a2 "java/lang/AbstractStringBuilder" "count" "I" (.int (Int32.ofNat (cnt)))) (F_coder_a2 : Fld Z h0 a2 "java/lang/AbstractStringBuilder" "coder" "B" (.int (0 : Int32))) (F_maybeLatin1_a2 : Fld Z h0 a2 "java/lang/AbstractStringBuilder" "maybeLatin1" "Z" (.int (0 : Int32))) (V_va : Arv Z h0 va kv .byte (Int32.ofNat (cc)) (List.map Value.int (own_R f cc)) (.int (0 : Int32))) (hf : ∀ j, j < cnt → f j = own_lo cs j) (hcc : cc ≤ 128) (hcn : cnt < cc) (hc6 : cnt ≤ 64) (O0 : own_Old Z n0 h0) (hST : own_ST Z) (hcl : ∀ j, j < cnt → ¬ (255 : Int32) < cs j) : own_Met l own_y17 jdk_42_method_53_code 2 none ws ⟨4, 1, 128, 87⟩ #[(.ref a1), (.ref a2)] Z h0 (Qtsb_0 Z a1 a2 va kv cc cnt f cs h0 n0) := by
  refine own_met (plainFor_of_name pn_java_lang_String) (fun p e s m below meth c s₁ hx hby hml hrt hlk hZ hown hnm X0 e0 es0 => ?_)
  have N0 := Fr.nil n0
  rw [ef_RR_2 m a1 a2]
  have Kz := Keep.refl h0 [a1]
  refine own_gk (XS.aloadN X0.here hx rfl (hb hby d17_0) rfl rfl) ?_
  refine own_gk (XS.aloadN X0.here hx rfl (hb hby d17_1) rfl rfl) ?_
  refine own_gk (XS.aconstNull X0.here hx rfl (hb hby d17_2)) ?_
  obtain ⟨_, T356, Lc356, X356, hQ356, st356⟩ := own_callI X0 hx hZ rfl hown (own_h hw 107 rfl) (own_h hw 108 rfl) (own_h hw 7 rfl) (own_h hw 109 rfl) (by decide) (rmtsi_0 l Z a0 hw [] a1 a2 va kv cc cnt f cs h0 n0 Z0 E_a1 F_value_a1 F_coder_a1 g_a1 E_a2 F_value_a2 F_count_a2 F_coder_a2 F_maybeLatin1_a2 V_va hf hcc hcn hc6 O0 hST hcl) (W := 0) (by decide) (by decide) (g := (mkF m 3 #[rv a1, rv a2] [.null, (.ref a2), (.ref a1)])) rfl (by rw [hml]; rfl) (argsL := [(.ref a2), .null]) (rest := []) (lenOf pd__28_Ljava_2f_lang_2f_AbstractStringBuilder_3b_Ljava_2f_lang_2f_Void_3b__29_V rfl) rfl (Nat.le_of_eq rfl) (hb hby d17_3) rfl e0 (by decide) (by decide)
  refine own_go st356 ?_
  obtain ⟨rfl, Nq356, K356, r356_0⟩ := hQ356
  have Od356 := O0.keep K356 (allS g_a1 all0)
  have E_a1_356 := E_a1.keep K356
  have E_a2_356 := E_a2.keep K356
  have F_value_a2_356 := F_value_a2.keep K356 (ninS (Exa.ne E_a2 E_a1 (by decide)) nin0)
  have F_count_a2_356 := F_count_a2.keep K356 (ninS (Exa.ne E_a2 E_a1 (by decide)) nin0)
  have F_coder_a2_356 := F_coder_a2.keep K356 (ninS (Exa.ne E_a2 E_a1 (by decide)) nin0)
  have F_maybeLatin1_a2_356 := F_maybeLatin1_a2.keep K356 (ninS (Exa.ne E_a2 E_a1 (by decide)) nin0)
  have V_va_356 := V_va.keep K356 (ninS (Ne.symm (Exa.neArv E_a1 V_va (own_h hw 6 rfl))) nin0)
  have Z356 : n0 ≤ T356.heap.size := Nat.le_trans Z0 K356.1
  have Kt356 := Kz.trans K356 (allS (P := fun x => x ∈ _ ∨ _ ≤ x) (Or.inl (List.mem_of_getElem? (i := 0) rfl)) all0)
  have N356 := Fr.app N0 Nq356
  obtain ⟨fs357, hr357, hrun357, hended357, hW357, hsame357⟩ := X356.leave (v := none) (fun _ => rfl)
  refine own_done (X356.returnOut hx hrt (hb hby d17_6) hr357) hrun357 hended357 ⟨_, _, rfl, ?_, ⟨_, rfl⟩, hW357, hsame357.mono (by decide) (by decide)⟩
  show Qtsb_0 Z a1 a2 va kv cc cnt f cs h0 n0 _ T356.heap _
  exact ⟨rfl, N356, Kt356, r356_0⟩
def Qts_0 (Z : State) (a1 : Addr) (va : Addr) (kv : ClassId) (cc : Nat) (cnt : Nat) (f : Nat → Int32) (cs : Nat → Int32) (h0 : Heap) (n0 : Nat) (v : Option Value) (h : Heap) (L : List Loc) : Prop := ∃ (r : Addr), v = some (.ref r) ∧ Fr n0 L ∧ Keep h0 h [] ∧ n0 ≤ r ∧ h0.size ≤ r ∧ own_Str Z h r cnt cs
theorem d16_0 : decode jdk_67_method_42_code 0 = .ok (.new 18, 3) := by decide +kernel
theorem d16_3 : decode jdk_67_method_42_code 3 = .ok (.dup, 1) := by decide +kernel
theorem d16_4 : decode jdk_67_method_42_code 4 = .ok (.aload_n 0, 1) := by decide +kernel
theorem d16_5 : decode jdk_67_method_42_code 5 = .ok (.invokespecial 137, 3) := by decide +kernel
theorem pd__28_Ljava_2f_lang_2f_StringBuilder_3b__29_V : parseMethodDescriptor "(Ljava/lang/StringBuilder;)V" = some ⟨[(.object "java/lang/StringBuilder")], none⟩ := by decide +kernel
theorem d16_8 : decode jdk_67_method_42_code 8 = .ok (.areturn, 1) := by decide +kernel
set_option maxRecDepth 65536 in
set_option maxHeartbeats 40000000 in
theorem rmts_0 (l : Launch) (Z : State) (a0 : Array Value) (hw : ∀ d ∈ tables_1, d.before a0 Z = true) (ws : List Jvm.Cond) (a1 : Addr) (va : Addr) (kv : ClassId) (cc : Nat) (cnt : Nat) (f : Nat → Int32) (cs : Nat → Int32) (h0 : Heap) (n0 : Nat) (Z0 : n0 ≤ h0.size) (E_a1 : Exa Z h0 a1 "java/lang/StringBuilder") (F_value_a1 : Fld Z h0 a1 "java/lang/AbstractStringBuilder" "value" "[B" (.ref va)) (F_count_a1 : Fld Z h0 a1 "java/lang/AbstractStringBuilder" "count" "I" (.int (Int32.ofNat (cnt)))) (F_coder_a1 : Fld Z h0 a1 "java/lang/AbstractStringBuilder" "coder" "B" (.int (0 : Int32))) (F_maybeLatin1_a1 : Fld Z h0 a1 "java/lang/AbstractStringBuilder" "maybeLatin1" "Z" (.int (0 : Int32))) (V_va : Arv Z h0 va kv .byte (Int32.ofNat (cc)) (List.map Value.int (own_R f cc)) (.int (0 : Int32))) (hf : ∀ j, j < cnt → f j = own_lo cs j) (hcc : cc ≤ 128) (hcn : cnt < cc) (hc6 : cnt ≤ 64) (O0 : own_Old Z n0 h0) (hST : own_ST Z) (hcl : ∀ j, j < cnt → ¬ (255 : Int32) < cs j) : own_Met l own_y16 jdk_67_method_42_code 1 (some (.object "java/lang/String")) ws ⟨5, 2, 132, 101⟩ #[(.ref a1)] Z h0 (Qts_0 Z a1 va kv cc cnt f cs h0 n0) := by
  refine own_met (plainFor_of_name pn_java_lang_StringBuilder) (fun p e s m below meth c s₁ hx hby hml hrt hlk hZ hown hnm X0 e0 es0 => ?_)
  have N0 := Fr.nil n0
  rw [ef_R_1 m a1]
  have Kz := Keep.refl h0 []
  obtain ⟨T358, h358, X358, e358, E358, A358, D358, U358, st358⟩ := newO X0 hx hZ hown (own_h hw 103 rfl) (own_h hw 6 rfl) (own_h hw 7 rfl) e0 (g := (mkF m 0 #[rv a1] [])) rfl (hb hby d16_0) (by decide) (by decide)
  obtain ⟨b358, g358⟩ : ∃ z, z = h0.size := ⟨_, rfl⟩
  rw [← g358] at A358 D358 U358 st358
  refine own_by st358 ?_
  have ne_a1_b358 : a1 ≠ b358 := Nat.ne_of_lt (Nat.lt_of_lt_of_eq E_a1.lt g358.symm)
  have ne_va_b358 : va ≠ b358 := Nat.ne_of_lt (Nat.lt_of_lt_of_eq V_va.lt g358.symm)
  have Od358 := O0.ext E358
  have E_a1_358 := E_a1.ext E358
  have F_value_a1_358 := F_value_a1.ext E358
  have F_count_a1_358 := F_count_a1.ext E358
  have F_coder_a1_358 := F_coder_a1.ext E358
  have F_maybeLatin1_a1_358 := F_maybeLatin1_a1.ext E358
  have V_va_358 := V_va.ext E358
  have g_b358 : n0 ≤ b358 := Nat.le_trans Z0 (Nat.le_of_eq g358.symm)
  have sz_b358 : h0.size ≤ b358 := Nat.le_trans Kz.1 (Nat.le_of_eq g358.symm)
  have K358 := Kz.ext E358
  have Z358 : n0 ≤ h358.size := Nat.le_trans Z0 E358.1
  have E_b358 := A358
  have F_value_b358 : Fld Z h358 b358 "java/lang/String" "value" "[B" .null := D358 (Or.inr (own_h hw 20 rfl)) (ty := (.array .byte)) (by decide)
  have F_coder_b358 : Fld Z h358 b358 "java/lang/String" "coder" "B" (.int (0 : Int32)) := D358 (Or.inr (own_h hw 21 rfl)) (ty := .byte) (by decide)
  refine own_gk (XS.dup X358.here hx rfl (hb hby d16_3) rfl rfl) ?_
  refine own_gk (XS.aloadN X358.here hx rfl (hb hby d16_4) rfl rfl) ?_
  obtain ⟨_, T359, Lc359, X359, hQ359, st359⟩ := own_callI X358 hx hZ rfl hown (own_h hw 104 rfl) (own_h hw 105 rfl) (own_h hw 7 rfl) (own_h hw 106 rfl) (by decide) (rmtsb_0 l Z a0 hw [] b358 a1 va kv cc cnt f cs h358 n0 Z358 E_b358 F_value_b358 F_coder_b358 g_b358 E_a1_358 F_value_a1_358 F_count_a1_358 F_coder_a1_358 F_maybeLatin1_a1_358 V_va_358 hf hcc hcn hc6 Od358 hST hcl) (W := 1) (by decide) (by decide) (g := (mkF m 5 #[rv a1] [(.ref a1), (.ref b358), (.ref b358)])) rfl (by rw [hml]; rfl) (argsL := [(.ref a1)]) (rest := [(.ref b358)]) (lenOf pd__28_Ljava_2f_lang_2f_StringBuilder_3b__29_V rfl) rfl (Nat.le_of_eq rfl) (hb hby d16_5) rfl e358 (by decide) (by decide)
  refine own_go st359 ?_
  obtain ⟨rfl, Nq359, K359, r359_0⟩ := hQ359
  have Od359 := Od358.keep K359 (allS g_b358 all0)
  have E_a1_359 := E_a1_358.keep K359
  have F_value_a1_359 := F_value_a1_358.keep K359 (ninS ne_a1_b358 nin0)
  have F_count_a1_359 := F_count_a1_358.keep K359 (ninS ne_a1_b358 nin0)
  have F_coder_a1_359 := F_coder_a1_358.keep K359 (ninS ne_a1_b358 nin0)
  have F_maybeLatin1_a1_359 := F_maybeLatin1_a1_358.keep K359 (ninS ne_a1_b358 nin0)
  have V_va_359 := V_va_358.keep K359 (ninS ne_va_b358 nin0)
  have E_b358_359 := E_b358.keep K359
  have Z359 : n0 ≤ T359.heap.size := Nat.le_trans Z358 K359.1
  have Kt359 := K358.trans K359 (allS (P := fun x => x ∈ _ ∨ _ ≤ x) (Or.inr sz_b358) all0)
  have N359 := Fr.app N0 Nq359
  obtain ⟨fs360, hr360, hrun360, hended360, hW360, hsame360⟩ := X359.leave (v := some (.ref b358)) (fun h => by rw [hrt] at h; cases h)
  refine own_done (retOut X359 hx hrt rfl (Or.inr (Or.inr (Or.inr (Or.inr ⟨rfl, rfl, rfl⟩)))) (hb hby d16_8) hr360) hrun360 hended360 ⟨_, _, rfl, ?_, ⟨_, rfl⟩, hW360, hsame360.mono (by decide) (by decide)⟩
  show Qts_0 Z a1 va kv cc cnt f cs h0 n0 _ T359.heap _
  exact ⟨b358, rfl, N359, Kt359, g_b358, sz_b358, r359_0⟩
def Qtsi_1 (Z : State) (a1 : Addr) (a2 : Addr) (va : Addr) (kv : ClassId) (cc : Nat) (cnt : Nat) (f : Nat → Int32) (cs : Nat → Int32) (h0 : Heap) (n0 : Nat) (v : Option Value) (h : Heap) (L : List Loc) : Prop := v = none ∧ Fr n0 L ∧ Keep h0 h [a1] ∧ own_Str Z h a1 cnt cs
theorem d18_41 : decode jdk_42_method_150_code 41 = .ok (.getstatic 38, 3) := by decide +kernel
theorem d18_44 : decode jdk_42_method_150_code 44 = .ok (.ifCond .eq 35, 3) := by decide +kernel
theorem d18_47 : decode jdk_42_method_150_code 47 = .ok (.aload_n 1, 1) := by decide +kernel
theorem d18_48 : decode jdk_42_method_150_code 48 = .ok (.getfield 1048, 3) := by decide +kernel
theorem d18_51 : decode jdk_42_method_150_code 51 = .ok (.ifCond .eq 28, 3) := by decide +kernel
theorem d18_79 : decode jdk_42_method_150_code 79 = .ok (.aload_n 0, 1) := by decide +kernel
theorem d18_80 : decode jdk_42_method_150_code 80 = .ok (.iconst 1, 1) := by decide +kernel
theorem d18_81 : decode jdk_42_method_150_code 81 = .ok (.putfield 15, 3) := by decide +kernel
theorem d18_84 : decode jdk_42_method_150_code 84 = .ok (.aload_n 0, 1) := by decide +kernel
theorem d18_85 : decode jdk_42_method_150_code 85 = .ok (.aload_n 3, 1) := by decide +kernel
theorem d18_86 : decode jdk_42_method_150_code 86 = .ok (.iconst 0, 1) := by decide +kernel
theorem d18_87 : decode jdk_42_method_150_code 87 = .ok (.iload 4, 2) := by decide +kernel
theorem d18_89 : decode jdk_42_method_150_code 89 = .ok (.iconst 1, 1) := by decide +kernel
theorem d18_90 : decode jdk_42_method_150_code 90 = .ok (.ishl, 1) := by decide +kernel
theorem d18_91 : decode jdk_42_method_150_code 91 = .ok (.invokestatic 54, 3) := by decide +kernel
theorem d18_94 : decode jdk_42_method_150_code 94 = .ok (.putfield 9, 3) := by decide +kernel
set_option maxRecDepth 65536 in
set_option maxHeartbeats 40000000 in
theorem rmtsi_1 (l : Launch) (Z : State) (a0 : Array Value) (hw : ∀ d ∈ tables_1, d.before a0 Z = true) (ws : List Jvm.Cond) (a1 : Addr) (a2 : Addr) (va : Addr) (kv : ClassId) (cc : Nat) (cnt : Nat) (f : Nat → Int32) (cs : Nat → Int32) (h0 : Heap) (n0 : Nat) (Z0 : n0 ≤ h0.size) (E_a1 : Exa Z h0 a1 "java/lang/String") (F_value_a1 : Fld Z h0 a1 "java/lang/String" "value" "[B" .null) (F_coder_a1 : Fld Z h0 a1 "java/lang/String" "coder" "B" (.int (0 : Int32))) (g_a1 : n0 ≤ a1) (E_a2 : Exa Z h0 a2 "java/lang/StringBuilder") (F_value_a2 : Fld Z h0 a2 "java/lang/AbstractStringBuilder" "value" "[B" (.ref va)) (F_count_a2 : Fld Z h0 a2 "java/lang/AbstractStringBuilder" "count" "I" (.int (Int32.ofNat (cnt)))) (F_coder_a2 : Fld Z h0 a2 "java/lang/AbstractStringBuilder" "coder" "B" (.int (1 : Int32))) (F_maybeLatin1_a2 : Fld Z h0 a2 "java/lang/AbstractStringBuilder" "maybeLatin1" "Z" (.int (0 : Int32))) (V_va : Arv Z h0 va kv .byte (Int32.ofNat (2 * cc)) (List.map Value.int (own_R f (2 * cc))) (.int (0 : Int32))) (hf : ∀ j, j < 2 * cnt → f j = own_u cs j) (hcc : cc ≤ 128) (hcn : cnt < cc) (hc6 : cnt ≤ 64) (O0 : own_Old Z n0 h0) (hST : own_ST Z) : own_Met l own_y18 jdk_42_method_150_code 5 none ws ⟨3, 1, 128, 71⟩ #[(.ref a1), (.ref a2), .null] Z h0 (Qtsi_1 Z a1 a2 va kv cc cnt f cs h0 n0) := by
  refine own_met (plainFor_of_name pn_java_lang_String) (fun p e s m below meth c s₁ hx hby hml hrt hlk hZ hown hnm X0 e0 es0 => ?_)
  have N0 := Fr.nil n0
  rw [ef_RR0_5 m a1 a2]
  have Kz := Keep.refl h0 [a1]
  obtain ⟨ct, sv, hct, hsv, S__assertionsDisabled, S_HI_BYTE_SHIFT, S_LO_BYTE_SHIFT, S_COMPACT_STRINGS, S_SIOOBE_FORMATTER⟩ := id hST
  refine own_gk (XS.aloadN X0.here hx rfl (hb hby d18_0) rfl rfl) ?_
  obtain ⟨T361, X361, e361, st361⟩ := initO X0 hx hZ hown (own_h hw 15 rfl) (own_h hw 16 rfl) (own_h hw 17 rfl) e0 (g := (mkF m 1 #[rv a1, rv a2, .val .null, .unset, .unset] [(.ref a1)])) rfl (by rw [hml]; rfl) rfl (hb hby d18_1) (by decide) (W := 0) (by show 2 * 0 + _ ≤ _; exact Nat.le_of_eq rfl) (by decide)
  refine own_by st361 ?_
  refine own_gk (XS.aloadN X361.here hx rfl (hb hby d18_4) rfl rfl) ?_
  obtain ⟨_, T362, Lc362, X362, hQ362, st362⟩ := own_callV X361 hx hZ E_a2 hown (own_h hw 110 rfl) (own_h hw 111 rfl) (notFace_of_selects (args := #[]) (mvT hZ (own_h hw 113 rfl))) (own_h hw 113 rfl) (own_h hw 112 rfl) (own_h hw 51 rfl) (own_h hw 114 rfl) (by decide) (rmgv l Z a0 hw [] a2 va h0 n0 Z0 F_value_a2) (W := 0) (by decide) (by decide) (g := (mkF m 5 #[rv a1, rv a2, .val .null, .unset, .unset] [(.ref a2)])) rfl (by rw [hml]; rfl) (argsL := []) (rest := []) (lenOf pd__28__29__5b_B rfl) rfl (Nat.le_of_eq rfl) (hb hby d18_5) rfl e361 (by decide) (by decide)
  obtain ⟨rfl, Nq362, e362⟩ := hQ362
  refine own_go st362 ?_
  have N362 := Fr.app N0 Nq362
  refine own_gk (XS.astoreN X362.here hx rfl (hb hby d18_8) rfl rfl rfl) ?_
  show own_Fin _ _ _ _ (T362.setTop (mkF m 9 #[rv a1, rv a2, .val .null, rv va, .unset] []))
  refine own_gk (XS.aloadN X362.here hx rfl (hb hby d18_9) rfl rfl) ?_
  obtain ⟨_, T363, Lc363, X363, hQ363, st363⟩ := own_callV X362 hx hZ E_a2 hown (own_h hw 115 rfl) (own_h hw 116 rfl) (own_nf (args := #[]) (mvT hZ (own_h hw 113 rfl)) rfl) (own_h hw 118 rfl) (own_h hw 119 rfl) (own_h hw 43 rfl) (own_h hw 120 rfl) (by decide) (rmsl l Z a0 hw [] a2 cnt h0 n0 Z0 E_a2 F_count_a2) (W := 0) (by decide) (by decide) (g := (mkF m 10 #[rv a1, rv a2, .val .null, rv va, .unset] [(.ref a2)])) rfl (by rw [hml]; rfl) (argsL := []) (rest := []) (lenOf pd__28__29_I rfl) rfl (Nat.le_of_eq rfl) (hb hby d18_10) rfl e362 (by decide) (by decide)
  obtain ⟨rfl, Nq363, e363⟩ := hQ363
  refine own_go st363 ?_
  have N363 := Fr.app N362 Nq363
  refine own_gk (XS.istore X363.here hx rfl (hb hby d18_13) rfl rfl) ?_
  refine own_gk (XS.aloadN X363.here hx rfl (hb hby d18_15) rfl rfl) ?_
  obtain ⟨_, T364, Lc364, X364, hQ364, st364⟩ := own_callV X363 hx hZ E_a2 hown (own_h hw 123 rfl) (own_h hw 124 rfl) (notFace_of_selects (args := #[]) (mvT hZ (own_h hw 126 rfl))) (own_h hw 126 rfl) (own_h hw 125 rfl) (own_h hw 51 rfl) (own_h hw 127 rfl) (by decide) (rmasl_1 l Z a0 hw [] a2 h0 n0 Z0 F_coder_a2 O0 hST) (W := 0) (by decide) (by decide) (g := (mkF m 16 #[rv a1, rv a2, .val .null, rv va, iv (Int32.ofNat (cnt))] [(.ref a2)])) rfl (by rw [hml]; rfl) (argsL := []) (rest := []) (lenOf pd__28__29_Z rfl) rfl (Nat.le_of_eq rfl) (hb hby d18_16) rfl e363 (by decide) (by decide)
  obtain ⟨rfl, Nq364, e364⟩ := hQ364
  refine own_go st364 ?_
  have N364 := Fr.app N363 Nq364
  show own_Fin _ _ _ _ (T364.setTop (mkF m 19 #[rv a1, rv a2, .val .null, rv va, iv (Int32.ofNat (cnt))] [(.int (0 : Int32))]))
  refine own_gk (XS.ifYes X364.here hx rfl (pc0 := 19) (pc' := 41) rfl (hb hby d18_19) rfl ((if0 _ _).trans (teq (by decide : (0 : Int32) = (0 : Int32))).1) (by decide) (by decide)) ?_
  obtain ⟨T365, X365, e365, st365⟩ := getS2 X364 hx hZ hown (host := "") (Or.inl (own_h hw 40 rfl)) Via.refl e364 (S_COMPACT_STRINGS.ext O0.2) (g := (mkF m 41 #[rv a1, rv a2, .val .null, rv va, iv (Int32.ofNat (cnt))] [])) rfl (hb hby d18_41)
  refine own_by st365 ?_
  refine own_gk (XS.ifNo X365.here hx rfl (hb hby d18_44) rfl ((if0 _ _).trans (feq (show ¬ (ct = (0 : Int32)) from hct)).1)) ?_
  refine own_gk (XS.aloadN X365.here hx rfl (hb hby d18_47) rfl rfl) ?_
  obtain ⟨T366, X366, e366, st366⟩ := getF X365 hx hZ hown (host := "") (Or.inl (own_h hw 261 rfl)) Via.refl e365 F_maybeLatin1_a2 (g := (mkF m 48 #[rv a1, rv a2, .val .null, rv va, iv (Int32.ofNat (cnt))] [(.ref a2)])) rfl rfl (hb hby d18_48)
  refine own_by st366 ?_
  show own_Fin _ _ _ _ (T366.setTop (mkF m 51 #[rv a1, rv a2, .val .null, rv va, iv (Int32.ofNat (cnt))] [(.int (0 : Int32))]))
  refine own_gk (XS.ifYes X366.here hx rfl (pc0 := 51) (pc' := 79) rfl (hb hby d18_51) rfl ((if0 _ _).trans (teq (by decide : (0 : Int32) = (0 : Int32))).1) (by decide) (by decide)) ?_
  refine own_gk (XS.aloadN X366.here hx rfl (hb hby d18_79) rfl rfl) ?_
  refine own_gk (XS.iconst X366.here hx rfl (hb hby d18_80)) ?_
  obtain ⟨T367, h367, X367, e367, W367, st367⟩ := putFN X366 hx hZ hown (own_h hw 25 rfl) Via.refl e366 F_coder_a1 E_a1 (Or.inr ⟨(own_h hw 21 rfl), rfl, hnm⟩) (own_h hw 6 rfl) (ty := .byte) (v' := (.int (nar .byte (1 : Int32)))) (by decide) rfl (fits_nar_byte _) (g := (mkF m 81 #[rv a1, rv a2, .val .null, rv va, iv (Int32.ofNat (cnt))] [(.int (1 : Int32)), (.ref a1)])) rfl rfl (hb hby d18_81)
  refine own_by st367 ?_
  have F_coder_a1_367 := F_coder_a1.same W367
  have Od367 := O0.wr W367 g_a1
  have E_a1_367 := E_a1.wr W367
  have F_value_a1_367 := F_value_a1.other W367 (Or.inr (slot_ne (Or.inr (own_h hw 20 rfl)) (Or.inr (own_h hw 21 rfl)) (by decide) (t := (.array .byte)) (t' := .byte) (by decide) (by decide)))
  have E_a2_367 := E_a2.wr W367
  have F_value_a2_367 := F_value_a2.other W367 (Or.inl (Exa.ne E_a2 E_a1 (by decide)))
  have F_count_a2_367 := F_count_a2.other W367 (Or.inl (Exa.ne E_a2 E_a1 (by decide)))
  have F_coder_a2_367 := F_coder_a2.other W367 (Or.inl (Exa.ne E_a2 E_a1 (by decide)))
  have F_maybeLatin1_a2_367 := F_maybeLatin1_a2.other W367 (Or.inl (Exa.ne E_a2 E_a1 (by decide)))
  have V_va_367 := V_va.other W367 (Ne.symm (Exa.neArv E_a1 V_va (own_h hw 6 rfl)))
  have N367 := Fr.snoc X367 N364 g_a1
  have Z367 : n0 ≤ h367.size := Nat.le_trans Z0 (Keep.of_wr W367).1
  have K367 := Kz.wr W367 (Or.inl (List.mem_of_getElem? (i := 0) rfl))
  refine own_gk (XS.aloadN X367.here hx rfl (hb hby d18_84) rfl rfl) ?_
  show own_Fin _ _ _ _ (T367.setTop (mkF m 85 #[rv a1, rv a2, .val .null, rv va, iv (Int32.ofNat (cnt))] [(.ref a1)]))
  refine own_gk (XS.aloadN X367.here hx rfl (hb hby d18_85) rfl rfl) ?_
  refine own_gk (XS.iconst X367.here hx rfl (hb hby d18_86)) ?_
  refine own_gk (XS.iload X367.here hx rfl (hb hby d18_87) rfl) ?_
  refine own_gk (XS.iconst X367.here hx rfl (hb hby d18_89)) ?_
  refine own_gk (XS.ishl X367.here hx rfl (hb hby d18_90) rfl) ?_
  show own_Fin _ _ _ _ (T367.setTop (mkF m 91 #[rv a1, rv a2, .val .null, rv va, iv (Int32.ofNat (cnt))] [(.int ((Int32.ofNat (cnt)) <<< ((1 : Int32) &&& 31))), (.int (0 : Int32)), (.ref va), (.ref a1)]))
  rw [show ((Int32.ofNat (cnt)) <<< ((1 : Int32) &&& 31)) = Int32.ofNat (2 * cnt) from (own_shl1 (a := cnt) (by omega))]
  obtain ⟨_, T368, Lc368, X368, hQ368, st368⟩ := own_callS X367 hx hZ hown (own_h hw 128 rfl) (own_h hw 129 rfl) (own_h hw 130 rfl) (own_h hw 131 rfl) (by decide) (rmcor l Z a0 hw [] va kv (2 * cc) f (2 * cnt) h367 n0 Z367 V_va_367 (by omega) (by omega) (by omega)) (W := 1) (by decide) (by decide) (g := (mkF m 91 #[rv a1, rv a2, .val .null, rv va, iv (Int32.ofNat (cnt))] [(.int (Int32.ofNat (2 * cnt))), (.int (0 : Int32)), (.ref va), (.ref a1)])) rfl (by rw [hml]; rfl) (argsL := [(.ref va), (.int (0 : Int32)), (.int (Int32.ofNat (2 * cnt)))]) (rest := [(.ref a1)]) (lenOf pd__28__5b_BII_29__5b_B rfl) rfl (Nat.le_of_eq rfl) (hb hby d18_91) rfl e367 (by decide) (by decide)
  refine own_go st368 ?_
  obtain ⟨b_368, kb_368, rfl, Nq368, K368, g_b_368, sb_b_368, r368_0⟩ := hQ368
  have ne_a1_b_368 : a1 ≠ b_368 := Nat.ne_of_lt (Nat.lt_of_lt_of_le E_a1_367.lt sb_b_368)
  have ne_a2_b_368 : a2 ≠ b_368 := Nat.ne_of_lt (Nat.lt_of_lt_of_le E_a2_367.lt sb_b_368)
  have ne_va_b_368 : va ≠ b_368 := Nat.ne_of_lt (Nat.lt_of_lt_of_le V_va_367.lt sb_b_368)
  have sz_b_368 : h0.size ≤ b_368 := Nat.le_trans K367.1 sb_b_368
  have Od368 := Od367.keep K368 all0
  have E_a1_368 := E_a1_367.keep K368
  have F_value_a1_368 := F_value_a1_367.keep K368 nin0
  have F_coder_a1_368 := F_coder_a1_367.keep K368 nin0
  have E_a2_368 := E_a2_367.keep K368
  have F_value_a2_368 := F_value_a2_367.keep K368 nin0
  have F_count_a2_368 := F_count_a2_367.keep K368 nin0
  have F_coder_a2_368 := F_coder_a2_367.keep K368 nin0
  have F_maybeLatin1_a2_368 := F_maybeLatin1_a2_367.keep K368 nin0
  have V_va_368 := V_va_367.keep K368 nin0
  have Z368 : n0 ≤ T368.heap.size := Nat.le_trans Z367 K368.1
  have Kt368 := K367.trans K368 all0
  have N368 := Fr.app N367 Nq368
  obtain ⟨T369, h369, X369, e369, W369, st369⟩ := putF X368 hx hZ hown (host := "") (Or.inl (own_h hw 24 rfl)) Via.refl rfl F_value_a1_368 E_a1_368 (Or.inr ⟨(own_h hw 20 rfl), rfl, hnm⟩) (own_h hw 6 rfl) (ty := (.array .byte)) (by decide) rfl rfl (g := (mkF m 94 #[rv a1, rv a2, .val .null, rv va, iv (Int32.ofNat (cnt))] [(.ref b_368), (.ref a1)])) rfl rfl (hb hby d18_94)
  refine own_by st369 ?_
  have F_value_a1_369 := F_value_a1_368.same W369
  have Od369 := Od368.wr W369 g_a1
  have E_a1_369 := E_a1_368.wr W369
  have F_coder_a1_369 := F_coder_a1_368.other W369 (Or.inr (slot_ne (Or.inr (own_h hw 21 rfl)) (Or.inr (own_h hw 20 rfl)) (by decide) (t := .byte) (t' := (.array .byte)) (by decide) (by decide)))
  have E_a2_369 := E_a2_368.wr W369
  have F_value_a2_369 := F_value_a2_368.other W369 (Or.inl (Exa.ne E_a2_368 E_a1_368 (by decide)))
  have F_count_a2_369 := F_count_a2_368.other W369 (Or.inl (Exa.ne E_a2_368 E_a1_368 (by decide)))
  have F_coder_a2_369 := F_coder_a2_368.other W369 (Or.inl (Exa.ne E_a2_368 E_a1_368 (by decide)))
  have F_maybeLatin1_a2_369 := F_maybeLatin1_a2_368.other W369 (Or.inl (Exa.ne E_a2_368 E_a1_368 (by decide)))
  have V_va_369 := V_va_368.other W369 (Ne.symm (Exa.neArv E_a1_368 V_va_368 (own_h hw 6 rfl)))
  have r368_0_369 := r368_0.other W369 (Ne.symm ne_a1_b_368)
  have N369 := Fr.snoc X369 N368 g_a1
  have Z369 : n0 ≤ h369.size := Nat.le_trans Z368 (Keep.of_wr W369).1
  have K369 := Kt368.wr W369 (Or.inl (List.mem_of_getElem? (i := 0) rfl))
  obtain ⟨fs370, hr370, hrun370, hended370, hW370, hsame370⟩ := X369.leave (v := none) (fun _ => rfl)
  refine own_done (X369.returnOut hx hrt (hb hby d18_97) hr370) hrun370 hended370 ⟨_, _, rfl, ?_, ⟨_, rfl⟩, hW370, hsame370.mono (by decide) (by decide)⟩
  show Qtsi_1 Z a1 a2 va kv cc cnt f cs h0 n0 _ T369.heap _
  rw [e369]
  exact ⟨rfl, N369, K369, ⟨E_a1_369, b_368, kb_368, F_value_a1_369, Or.inr ⟨F_coder_a1_369, (own_arvm r368_0_369 (own_congR (f := f) (g := own_u cs) (n := 2 * cnt) hf))⟩⟩⟩
def Qtsb_1 (Z : State) (a1 : Addr) (a2 : Addr) (va : Addr) (kv : ClassId) (cc : Nat) (cnt : Nat) (f : Nat → Int32) (cs : Nat → Int32) (h0 : Heap) (n0 : Nat) (v : Option Value) (h : Heap) (L : List Loc) : Prop := v = none ∧ Fr n0 L ∧ Keep h0 h [a1] ∧ own_Str Z h a1 cnt cs
set_option maxRecDepth 65536 in
set_option maxHeartbeats 40000000 in
theorem rmtsb_1 (l : Launch) (Z : State) (a0 : Array Value) (hw : ∀ d ∈ tables_1, d.before a0 Z = true) (ws : List Jvm.Cond) (a1 : Addr) (a2 : Addr) (va : Addr) (kv : ClassId) (cc : Nat) (cnt : Nat) (f : Nat → Int32) (cs : Nat → Int32) (h0 : Heap) (n0 : Nat) (Z0 : n0 ≤ h0.size) (E_a1 : Exa Z h0 a1 "java/lang/String") (F_value_a1 : Fld Z h0 a1 "java/lang/String" "value" "[B" .null) (F_coder_a1 : Fld Z h0 a1 "java/lang/String" "coder" "B" (.int (0 : Int32))) (g_a1 : n0 ≤ a1) (E_a2 : Exa Z h0 a2 "java/lang/StringBuilder") (F_value_a2 : Fld Z h0 a2 "java/lang/AbstractStringBuilder" "value" "[B" (.ref va)) (F_count_a2 : Fld Z h0 a2 "java/lang/AbstractStringBuilder" "count" "I" (.int (Int32.ofNat (cnt)))) (F_coder_a2 : Fld Z h0 a2 "java/lang/AbstractStringBuilder" "coder" "B" (.int (1 : Int32))) (F_maybeLatin1_a2 : Fld Z h0 a2 "java/lang/AbstractStringBuilder" "maybeLatin1" "Z" (.int (0 : Int32))) (V_va : Arv Z h0 va kv .byte (Int32.ofNat (2 * cc)) (List.map Value.int (own_R f (2 * cc))) (.int (0 : Int32))) (hf : ∀ j, j < 2 * cnt → f j = own_u cs j) (hcc : cc ≤ 128) (hcn : cnt < cc) (hc6 : cnt ≤ 64) (O0 : own_Old Z n0 h0) (hST : own_ST Z) : own_Met l own_y17 jdk_42_method_53_code 2 none ws ⟨4, 1, 128, 87⟩ #[(.ref a1), (.ref a2)] Z h0 (Qtsb_1 Z a1 a2 va kv cc cnt f cs h0 n0) := by
  refine own_met (plainFor_of_name pn_java_lang_String) (fun p e s m below meth c s₁ hx hby hml hrt hlk hZ hown hnm X0 e0 es0 => ?_)
  have N0 := Fr.nil n0
  rw [ef_RR_2 m a1 a2]
  have Kz := Keep.refl h0 [a1]
  refine own_gk (XS.aloadN X0.here hx rfl (hb hby d17_0) rfl rfl) ?_
  refine own_gk (XS.aloadN X0.here hx rfl (hb hby d17_1) rfl rfl) ?_
  refine own_gk (XS.aconstNull X0.here hx rfl (hb hby d17_2)) ?_
  obtain ⟨_, T371, Lc371, X371, hQ371, st371⟩ := own_callI X0 hx hZ rfl hown (own_h hw 107 rfl) (own_h hw 108 rfl) (own_h hw 7 rfl) (own_h hw 109 rfl) (by decide) (rmtsi_1 l Z a0 hw [] a1 a2 va kv cc cnt f cs h0 n0 Z0 E_a1 F_value_a1 F_coder_a1 g_a1 E_a2 F_value_a2 F_count_a2 F_coder_a2 F_maybeLatin1_a2 V_va hf hcc hcn hc6 O0 hST) (W := 0) (by decide) (by decide) (g := (mkF m 3 #[rv a1, rv a2] [.null, (.ref a2), (.ref a1)])) rfl (by rw [hml]; rfl) (argsL := [(.ref a2), .null]) (rest := []) (lenOf pd__28_Ljava_2f_lang_2f_AbstractStringBuilder_3b_Ljava_2f_lang_2f_Void_3b__29_V rfl) rfl (Nat.le_of_eq rfl) (hb hby d17_3) rfl e0 (by decide) (by decide)
  refine own_go st371 ?_
  obtain ⟨rfl, Nq371, K371, r371_0⟩ := hQ371
  have Od371 := O0.keep K371 (allS g_a1 all0)
  have E_a1_371 := E_a1.keep K371
  have E_a2_371 := E_a2.keep K371
  have F_value_a2_371 := F_value_a2.keep K371 (ninS (Exa.ne E_a2 E_a1 (by decide)) nin0)
  have F_count_a2_371 := F_count_a2.keep K371 (ninS (Exa.ne E_a2 E_a1 (by decide)) nin0)
  have F_coder_a2_371 := F_coder_a2.keep K371 (ninS (Exa.ne E_a2 E_a1 (by decide)) nin0)
  have F_maybeLatin1_a2_371 := F_maybeLatin1_a2.keep K371 (ninS (Exa.ne E_a2 E_a1 (by decide)) nin0)
  have V_va_371 := V_va.keep K371 (ninS (Ne.symm (Exa.neArv E_a1 V_va (own_h hw 6 rfl))) nin0)
  have Z371 : n0 ≤ T371.heap.size := Nat.le_trans Z0 K371.1
  have Kt371 := Kz.trans K371 (allS (P := fun x => x ∈ _ ∨ _ ≤ x) (Or.inl (List.mem_of_getElem? (i := 0) rfl)) all0)
  have N371 := Fr.app N0 Nq371
  obtain ⟨fs372, hr372, hrun372, hended372, hW372, hsame372⟩ := X371.leave (v := none) (fun _ => rfl)
  refine own_done (X371.returnOut hx hrt (hb hby d17_6) hr372) hrun372 hended372 ⟨_, _, rfl, ?_, ⟨_, rfl⟩, hW372, hsame372.mono (by decide) (by decide)⟩
  show Qtsb_1 Z a1 a2 va kv cc cnt f cs h0 n0 _ T371.heap _
  exact ⟨rfl, N371, Kt371, r371_0⟩
def Qts_1 (Z : State) (a1 : Addr) (va : Addr) (kv : ClassId) (cc : Nat) (cnt : Nat) (f : Nat → Int32) (cs : Nat → Int32) (h0 : Heap) (n0 : Nat) (v : Option Value) (h : Heap) (L : List Loc) : Prop := ∃ (r : Addr), v = some (.ref r) ∧ Fr n0 L ∧ Keep h0 h [] ∧ n0 ≤ r ∧ h0.size ≤ r ∧ own_Str Z h r cnt cs
set_option maxRecDepth 65536 in
set_option maxHeartbeats 40000000 in
theorem rmts_1 (l : Launch) (Z : State) (a0 : Array Value) (hw : ∀ d ∈ tables_1, d.before a0 Z = true) (ws : List Jvm.Cond) (a1 : Addr) (va : Addr) (kv : ClassId) (cc : Nat) (cnt : Nat) (f : Nat → Int32) (cs : Nat → Int32) (h0 : Heap) (n0 : Nat) (Z0 : n0 ≤ h0.size) (E_a1 : Exa Z h0 a1 "java/lang/StringBuilder") (F_value_a1 : Fld Z h0 a1 "java/lang/AbstractStringBuilder" "value" "[B" (.ref va)) (F_count_a1 : Fld Z h0 a1 "java/lang/AbstractStringBuilder" "count" "I" (.int (Int32.ofNat (cnt)))) (F_coder_a1 : Fld Z h0 a1 "java/lang/AbstractStringBuilder" "coder" "B" (.int (1 : Int32))) (F_maybeLatin1_a1 : Fld Z h0 a1 "java/lang/AbstractStringBuilder" "maybeLatin1" "Z" (.int (0 : Int32))) (V_va : Arv Z h0 va kv .byte (Int32.ofNat (2 * cc)) (List.map Value.int (own_R f (2 * cc))) (.int (0 : Int32))) (hf : ∀ j, j < 2 * cnt → f j = own_u cs j) (hcc : cc ≤ 128) (hcn : cnt < cc) (hc6 : cnt ≤ 64) (O0 : own_Old Z n0 h0) (hST : own_ST Z) : own_Met l own_y16 jdk_67_method_42_code 1 (some (.object "java/lang/String")) ws ⟨5, 2, 132, 101⟩ #[(.ref a1)] Z h0 (Qts_1 Z a1 va kv cc cnt f cs h0 n0) := by
  refine own_met (plainFor_of_name pn_java_lang_StringBuilder) (fun p e s m below meth c s₁ hx hby hml hrt hlk hZ hown hnm X0 e0 es0 => ?_)
  have N0 := Fr.nil n0
  rw [ef_R_1 m a1]
  have Kz := Keep.refl h0 []
  obtain ⟨T373, h373, X373, e373, E373, A373, D373, U373, st373⟩ := newO X0 hx hZ hown (own_h hw 103 rfl) (own_h hw 6 rfl) (own_h hw 7 rfl) e0 (g := (mkF m 0 #[rv a1] [])) rfl (hb hby d16_0) (by decide) (by decide)
  obtain ⟨b373, g373⟩ : ∃ z, z = h0.size := ⟨_, rfl⟩
  rw [← g373] at A373 D373 U373 st373
  refine own_by st373 ?_
  have ne_a1_b373 : a1 ≠ b373 := Nat.ne_of_lt (Nat.lt_of_lt_of_eq E_a1.lt g373.symm)
  have ne_va_b373 : va ≠ b373 := Nat.ne_of_lt (Nat.lt_of_lt_of_eq V_va.lt g373.symm)
  have Od373 := O0.ext E373
  have E_a1_373 := E_a1.ext E373
  have F_value_a1_373 := F_value_a1.ext E373
  have F_count_a1_373 := F_count_a1.ext E373
  have F_coder_a1_373 := F_coder_a1.ext E373
  have F_maybeLatin1_a1_373 := F_maybeLatin1_a1.ext E373
  have V_va_373 := V_va.ext E373
  have g_b373 : n0 ≤ b373 := Nat.le_trans Z0 (Nat.le_of_eq g373.symm)
  have sz_b373 : h0.size ≤ b373 := Nat.le_trans Kz.1 (Nat.le_of_eq g373.symm)
  have K373 := Kz.ext E373
  have Z373 : n0 ≤ h373.size := Nat.le_trans Z0 E373.1
  have E_b373 := A373
  have F_value_b373 : Fld Z h373 b373 "java/lang/String" "value" "[B" .null := D373 (Or.inr (own_h hw 20 rfl)) (ty := (.array .byte)) (by decide)
  have F_coder_b373 : Fld Z h373 b373 "java/lang/String" "coder" "B" (.int (0 : Int32)) := D373 (Or.inr (own_h hw 21 rfl)) (ty := .byte) (by decide)
  refine own_gk (XS.dup X373.here hx rfl (hb hby d16_3) rfl rfl) ?_
  refine own_gk (XS.aloadN X373.here hx rfl (hb hby d16_4) rfl rfl) ?_
  obtain ⟨_, T374, Lc374, X374, hQ374, st374⟩ := own_callI X373 hx hZ rfl hown (own_h hw 104 rfl) (own_h hw 105 rfl) (own_h hw 7 rfl) (own_h hw 106 rfl) (by decide) (rmtsb_1 l Z a0 hw [] b373 a1 va kv cc cnt f cs h373 n0 Z373 E_b373 F_value_b373 F_coder_b373 g_b373 E_a1_373 F_value_a1_373 F_count_a1_373 F_coder_a1_373 F_maybeLatin1_a1_373 V_va_373 hf hcc hcn hc6 Od373 hST) (W := 1) (by decide) (by decide) (g := (mkF m 5 #[rv a1] [(.ref a1), (.ref b373), (.ref b373)])) rfl (by rw [hml]; rfl) (argsL := [(.ref a1)]) (rest := [(.ref b373)]) (lenOf pd__28_Ljava_2f_lang_2f_StringBuilder_3b__29_V rfl) rfl (Nat.le_of_eq rfl) (hb hby d16_5) rfl e373 (by decide) (by decide)
  refine own_go st374 ?_
  obtain ⟨rfl, Nq374, K374, r374_0⟩ := hQ374
  have Od374 := Od373.keep K374 (allS g_b373 all0)
  have E_a1_374 := E_a1_373.keep K374
  have F_value_a1_374 := F_value_a1_373.keep K374 (ninS ne_a1_b373 nin0)
  have F_count_a1_374 := F_count_a1_373.keep K374 (ninS ne_a1_b373 nin0)
  have F_coder_a1_374 := F_coder_a1_373.keep K374 (ninS ne_a1_b373 nin0)
  have F_maybeLatin1_a1_374 := F_maybeLatin1_a1_373.keep K374 (ninS ne_a1_b373 nin0)
  have V_va_374 := V_va_373.keep K374 (ninS ne_va_b373 nin0)
  have E_b373_374 := E_b373.keep K374
  have Z374 : n0 ≤ T374.heap.size := Nat.le_trans Z373 K374.1
  have Kt374 := K373.trans K374 (allS (P := fun x => x ∈ _ ∨ _ ≤ x) (Or.inr sz_b373) all0)
  have N374 := Fr.app N0 Nq374
  obtain ⟨fs375, hr375, hrun375, hended375, hW375, hsame375⟩ := X374.leave (v := some (.ref b373)) (fun h => by rw [hrt] at h; cases h)
  refine own_done (retOut X374 hx hrt rfl (Or.inr (Or.inr (Or.inr (Or.inr ⟨rfl, rfl, rfl⟩)))) (hb hby d16_8) hr375) hrun375 hended375 ⟨_, _, rfl, ?_, ⟨_, rfl⟩, hW375, hsame375.mono (by decide) (by decide)⟩
  show Qts_1 Z a1 va kv cc cnt f cs h0 n0 _ T374.heap _
  exact ⟨b373, rfl, N374, Kt374, g_b373, sz_b373, r374_0⟩
theorem ef_RRI_3 (m : MethodId) (x0 : Addr) (x1 : Addr) (x2 : Int32) : entryFrame m #[(.ref x0), (.ref x1), (.int x2)] 3 = mkF m 0 #[.val (.ref x0), .val (.ref x1), .val (.int x2)] [] := by first | (simp [entryFrame, mkF, argsToLocals, Value.category]; done) | rfl
def Qib_0 (Z : State) (a1 : Addr) (a2 : Addr) (h0 : Heap) (n0 : Nat) (v : Option Value) (h : Heap) (L : List Loc) : Prop := v = none ∧ Fr n0 L ∧ Keep h0 h [a1] ∧ Exa Z h a1 "java/lang/String" ∧ Fld Z h a1 "java/lang/String" "value" "[B" (.ref a2) ∧ Fld Z h a1 "java/lang/String" "coder" "B" (.int (0 : Int32))
theorem d43_0 : decode jdk_42_method_151_code 0 = .ok (.aload_n 0, 1) := by decide +kernel
theorem d43_1 : decode jdk_42_method_151_code 1 = .ok (.invokespecial 1, 3) := by decide +kernel
theorem d43_4 : decode jdk_42_method_151_code 4 = .ok (.aload_n 0, 1) := by decide +kernel
theorem d43_5 : decode jdk_42_method_151_code 5 = .ok (.aload_n 1, 1) := by decide +kernel
theorem d43_6 : decode jdk_42_method_151_code 6 = .ok (.putfield 9, 3) := by decide +kernel
theorem d43_9 : decode jdk_42_method_151_code 9 = .ok (.aload_n 0, 1) := by decide +kernel
theorem d43_10 : decode jdk_42_method_151_code 10 = .ok (.iload_n 2, 1) := by decide +kernel
theorem d43_11 : decode jdk_42_method_151_code 11 = .ok (.putfield 15, 3) := by decide +kernel
theorem d43_14 : decode jdk_42_method_151_code 14 = .ok (.return_, 1) := by decide +kernel
set_option maxRecDepth 65536 in
set_option maxHeartbeats 40000000 in
theorem rmib_0 (l : Launch) (Z : State) (a0 : Array Value) (hw : ∀ d ∈ tables_1, d.before a0 Z = true) (ws : List Jvm.Cond) (a1 : Addr) (a2 : Addr) (h0 : Heap) (n0 : Nat) (Z0 : n0 ≤ h0.size) (E_a1 : Exa Z h0 a1 "java/lang/String") (F_value_a1 : Fld Z h0 a1 "java/lang/String" "value" "[B" .null) (F_coder_a1 : Fld Z h0 a1 "java/lang/String" "coder" "B" (.int (0 : Int32))) (g_a1 : n0 ≤ a1) : own_Met l own_y43 jdk_42_method_151_code 3 none ws ⟨1, 0, 0, 12⟩ #[(.ref a1), (.ref a2), (.int (0 : Int32))] Z h0 (Qib_0 Z a1 a2 h0 n0) := by
  refine own_met (plainFor_of_name pn_java_lang_String) (fun p e s m below meth c s₁ hx hby hml hrt hlk hZ hown hnm X0 e0 es0 => ?_)
  have N0 := Fr.nil n0
  rw [ef_RRI_3 m a1 a2 (0 : Int32)]
  have Kz := Keep.refl h0 [a1]
  refine own_gk (XS.aloadN X0.here hx rfl (hb hby d43_0) rfl rfl) ?_
  obtain ⟨T376, X376, e376, st376⟩ := initO X0 hx hZ hown (own_h hw 15 rfl) (own_h hw 16 rfl) (own_h hw 17 rfl) e0 (g := (mkF m 1 #[rv a1, rv a2, iv (0 : Int32)] [(.ref a1)])) rfl (by rw [hml]; rfl) rfl (hb hby d43_1) (by decide) (W := 0) (by show 2 * 0 + _ ≤ _; exact Nat.le_of_eq rfl) (by decide)
  refine own_by st376 ?_
  refine own_gk (XS.aloadN X376.here hx rfl (hb hby d43_4) rfl rfl) ?_
  refine own_gk (XS.aloadN X376.here hx rfl (hb hby d43_5) rfl rfl) ?_
  obtain ⟨T377, h377, X377, e377, W377, st377⟩ := putF X376 hx hZ hown (host := "") (Or.inl (own_h hw 24 rfl)) Via.refl e376 F_value_a1 E_a1 (Or.inr ⟨(own_h hw 20 rfl), rfl, hnm⟩) (own_h hw 6 rfl) (ty := (.array .byte)) (by decide) rfl rfl (g := (mkF m 6 #[rv a1, rv a2, iv (0 : Int32)] [(.ref a2), (.ref a1)])) rfl rfl (hb hby d43_6)
  refine own_by st377 ?_
  have F_value_a1_377 := F_value_a1.same W377
  have E_a1_377 := E_a1.wr W377
  have F_coder_a1_377 := F_coder_a1.other W377 (Or.inr (slot_ne (Or.inr (own_h hw 21 rfl)) (Or.inr (own_h hw 20 rfl)) (by decide) (t := .byte) (t' := (.array .byte)) (by decide) (by decide)))
  have N377 := Fr.snoc X377 N0 g_a1
  have Z377 : n0 ≤ h377.size := Nat.le_trans Z0 (Keep.of_wr W377).1
  have K377 := Kz.wr W377 (Or.inl (List.mem_of_getElem? (i := 0) rfl))
  show own_Fin _ _ _ _ (T377.setTop (mkF m 9 #[rv a1, rv a2, iv (0 : Int32)] []))
  refine own_gk (XS.aloadN X377.here hx rfl (hb hby d43_9) rfl rfl) ?_
  refine own_gk (XS.iloadN X377.here hx rfl (hb hby d43_10) rfl) ?_
  obtain ⟨T378, h378, X378, e378, W378, st378⟩ := putFN X377 hx hZ hown (own_h hw 25 rfl) Via.refl e377 F_coder_a1_377 E_a1_377 (Or.inr ⟨(own_h hw 21 rfl), rfl, hnm⟩) (own_h hw 6 rfl) (ty := .byte) (v' := (.int (nar .byte (0 : Int32)))) (by decide) rfl (fits_nar_byte _) (g := (mkF m 11 #[rv a1, rv a2, iv (0 : Int32)] [(.int (0 : Int32)), (.ref a1)])) rfl rfl (hb hby d43_11)
  refine own_by st378 ?_
  have F_coder_a1_378 := F_coder_a1_377.same W378
  have E_a1_378 := E_a1_377.wr W378
  have F_value_a1_378 := F_value_a1_377.other W378 (Or.inr (slot_ne (Or.inr (own_h hw 20 rfl)) (Or.inr (own_h hw 21 rfl)) (by decide) (t := (.array .byte)) (t' := .byte) (by decide) (by decide)))
  have N378 := Fr.snoc X378 N377 g_a1
  have Z378 : n0 ≤ h378.size := Nat.le_trans Z377 (Keep.of_wr W378).1
  have K378 := K377.wr W378 (Or.inl (List.mem_of_getElem? (i := 0) rfl))
  obtain ⟨fs379, hr379, hrun379, hended379, hW379, hsame379⟩ := X378.leave (v := none) (fun _ => rfl)
  refine own_done (X378.returnOut hx hrt (hb hby d43_14) hr379) hrun379 hended379 ⟨_, _, rfl, ?_, ⟨_, rfl⟩, hW379, hsame379.mono (by decide) (by decide)⟩
  show Qib_0 Z a1 a2 h0 n0 _ T378.heap _
  rw [e378]
  exact ⟨rfl, N378, K378, E_a1_378, F_value_a1_378, F_coder_a1_378⟩
def Qib_1 (Z : State) (a1 : Addr) (a2 : Addr) (h0 : Heap) (n0 : Nat) (v : Option Value) (h : Heap) (L : List Loc) : Prop := v = none ∧ Fr n0 L ∧ Keep h0 h [a1] ∧ Exa Z h a1 "java/lang/String" ∧ Fld Z h a1 "java/lang/String" "value" "[B" (.ref a2) ∧ Fld Z h a1 "java/lang/String" "coder" "B" (.int (1 : Int32))
set_option maxRecDepth 65536 in
set_option maxHeartbeats 40000000 in
theorem rmib_1 (l : Launch) (Z : State) (a0 : Array Value) (hw : ∀ d ∈ tables_1, d.before a0 Z = true) (ws : List Jvm.Cond) (a1 : Addr) (a2 : Addr) (h0 : Heap) (n0 : Nat) (Z0 : n0 ≤ h0.size) (E_a1 : Exa Z h0 a1 "java/lang/String") (F_value_a1 : Fld Z h0 a1 "java/lang/String" "value" "[B" .null) (F_coder_a1 : Fld Z h0 a1 "java/lang/String" "coder" "B" (.int (0 : Int32))) (g_a1 : n0 ≤ a1) : own_Met l own_y43 jdk_42_method_151_code 3 none ws ⟨1, 0, 0, 12⟩ #[(.ref a1), (.ref a2), (.int (1 : Int32))] Z h0 (Qib_1 Z a1 a2 h0 n0) := by
  refine own_met (plainFor_of_name pn_java_lang_String) (fun p e s m below meth c s₁ hx hby hml hrt hlk hZ hown hnm X0 e0 es0 => ?_)
  have N0 := Fr.nil n0
  rw [ef_RRI_3 m a1 a2 (1 : Int32)]
  have Kz := Keep.refl h0 [a1]
  refine own_gk (XS.aloadN X0.here hx rfl (hb hby d43_0) rfl rfl) ?_
  obtain ⟨T380, X380, e380, st380⟩ := initO X0 hx hZ hown (own_h hw 15 rfl) (own_h hw 16 rfl) (own_h hw 17 rfl) e0 (g := (mkF m 1 #[rv a1, rv a2, iv (1 : Int32)] [(.ref a1)])) rfl (by rw [hml]; rfl) rfl (hb hby d43_1) (by decide) (W := 0) (by show 2 * 0 + _ ≤ _; exact Nat.le_of_eq rfl) (by decide)
  refine own_by st380 ?_
  refine own_gk (XS.aloadN X380.here hx rfl (hb hby d43_4) rfl rfl) ?_
  refine own_gk (XS.aloadN X380.here hx rfl (hb hby d43_5) rfl rfl) ?_
  obtain ⟨T381, h381, X381, e381, W381, st381⟩ := putF X380 hx hZ hown (host := "") (Or.inl (own_h hw 24 rfl)) Via.refl e380 F_value_a1 E_a1 (Or.inr ⟨(own_h hw 20 rfl), rfl, hnm⟩) (own_h hw 6 rfl) (ty := (.array .byte)) (by decide) rfl rfl (g := (mkF m 6 #[rv a1, rv a2, iv (1 : Int32)] [(.ref a2), (.ref a1)])) rfl rfl (hb hby d43_6)
  refine own_by st381 ?_
  have F_value_a1_381 := F_value_a1.same W381
  have E_a1_381 := E_a1.wr W381
  have F_coder_a1_381 := F_coder_a1.other W381 (Or.inr (slot_ne (Or.inr (own_h hw 21 rfl)) (Or.inr (own_h hw 20 rfl)) (by decide) (t := .byte) (t' := (.array .byte)) (by decide) (by decide)))
  have N381 := Fr.snoc X381 N0 g_a1
  have Z381 : n0 ≤ h381.size := Nat.le_trans Z0 (Keep.of_wr W381).1
  have K381 := Kz.wr W381 (Or.inl (List.mem_of_getElem? (i := 0) rfl))
  show own_Fin _ _ _ _ (T381.setTop (mkF m 9 #[rv a1, rv a2, iv (1 : Int32)] []))
  refine own_gk (XS.aloadN X381.here hx rfl (hb hby d43_9) rfl rfl) ?_
  refine own_gk (XS.iloadN X381.here hx rfl (hb hby d43_10) rfl) ?_
  obtain ⟨T382, h382, X382, e382, W382, st382⟩ := putFN X381 hx hZ hown (own_h hw 25 rfl) Via.refl e381 F_coder_a1_381 E_a1_381 (Or.inr ⟨(own_h hw 21 rfl), rfl, hnm⟩) (own_h hw 6 rfl) (ty := .byte) (v' := (.int (nar .byte (1 : Int32)))) (by decide) rfl (fits_nar_byte _) (g := (mkF m 11 #[rv a1, rv a2, iv (1 : Int32)] [(.int (1 : Int32)), (.ref a1)])) rfl rfl (hb hby d43_11)
  refine own_by st382 ?_
  have F_coder_a1_382 := F_coder_a1_381.same W382
  have E_a1_382 := E_a1_381.wr W382
  have F_value_a1_382 := F_value_a1_381.other W382 (Or.inr (slot_ne (Or.inr (own_h hw 20 rfl)) (Or.inr (own_h hw 21 rfl)) (by decide) (t := (.array .byte)) (t' := .byte) (by decide) (by decide)))
  have N382 := Fr.snoc X382 N381 g_a1
  have Z382 : n0 ≤ h382.size := Nat.le_trans Z381 (Keep.of_wr W382).1
  have K382 := K381.wr W382 (Or.inl (List.mem_of_getElem? (i := 0) rfl))
  obtain ⟨fs383, hr383, hrun383, hended383, hW383, hsame383⟩ := X382.leave (v := none) (fun _ => rfl)
  refine own_done (X382.returnOut hx hrt (hb hby d43_14) hr383) hrun383 hended383 ⟨_, _, rfl, ?_, ⟨_, rfl⟩, hW383, hsame383.mono (by decide) (by decide)⟩
  show Qib_1 Z a1 a2 h0 n0 _ T382.heap _
  rw [e382]
  exact ⟨rfl, N382, K382, E_a1_382, F_value_a1_382, F_coder_a1_382⟩
def QnsL (Z : State) (a1 : Addr) (k : ClassId) (N : Nat) (cs : Nat → Int32) (h0 : Heap) (n0 : Nat) (v : Option Value) (h : Heap) (L : List Loc) : Prop := ∃ (r : Addr), v = some (.ref r) ∧ Fr n0 L ∧ Keep h0 h [] ∧ n0 ≤ r ∧ h0.size ≤ r ∧ own_Str Z h r 40 cs
theorem d42_0 : decode jdk_43_method_47_code 0 = .ok (.iload_n 2, 1) := by decide +kernel
theorem d42_1 : decode jdk_43_method_47_code 1 = .ok (.ifCond .ne 6, 3) := by decide +kernel
theorem d42_7 : decode jdk_43_method_47_code 7 = .ok (.new 1, 3) := by decide +kernel
theorem d42_10 : decode jdk_43_method_47_code 10 = .ok (.dup, 1) := by decide +kernel
theorem d42_11 : decode jdk_43_method_47_code 11 = .ok (.aload_n 0, 1) := by decide +kernel
theorem d42_12 : decode jdk_43_method_47_code 12 = .ok (.iload_n 1, 1) := by decide +kernel
theorem d42_13 : decode jdk_43_method_47_code 13 = .ok (.iload_n 1, 1) := by decide +kernel
theorem d42_14 : decode jdk_43_method_47_code 14 = .ok (.iload_n 2, 1) := by decide +kernel
theorem d42_15 : decode jdk_43_method_47_code 15 = .ok (.iadd, 1) := by decide +kernel
theorem d42_16 : decode jdk_43_method_47_code 16 = .ok (.invokestatic 232, 3) := by decide +kernel
theorem d42_19 : decode jdk_43_method_47_code 19 = .ok (.iconst 0, 1) := by decide +kernel
theorem d42_20 : decode jdk_43_method_47_code 20 = .ok (.invokespecial 112, 3) := by decide +kernel
theorem pd__28__5b_BB_29_V : parseMethodDescriptor "([BB)V" = some ⟨[(.array .byte), .byte], none⟩ := by decide +kernel
theorem d42_23 : decode jdk_43_method_47_code 23 = .ok (.areturn, 1) := by decide +kernel
set_option maxRecDepth 65536 in
set_option maxHeartbeats 40000000 in
theorem rmnsL (l : Launch) (Z : State) (a0 : Array Value) (hw : ∀ d ∈ tables_1, d.before a0 Z = true) (ws : List Jvm.Cond) (a1 : Addr) (k : ClassId) (N : Nat) (cs : Nat → Int32) (h0 : Heap) (n0 : Nat) (Z0 : n0 ≤ h0.size) (V_a1 : Arv Z h0 a1 k .byte (Int32.ofNat (N)) (List.map Value.int (own_R (own_lo cs) N)) (.int (0 : Int32))) (hN : N ≤ 64) (hN4 : 40 < N) (hal : ∀ i, i < N → ¬ (255 : Int32) < cs i) : own_Met l own_y42 jdk_43_method_47_code 3 (some (.object "java/lang/String")) ws ⟨3, 2, 132, 72⟩ #[(.ref a1), (.int (0 : Int32)), (.int (40 : Int32))] Z h0 (QnsL Z a1 k N cs h0 n0) := by
  refine own_met (plainFor_of_name pn_java_lang_StringLatin1) (fun p e s m below meth c s₁ hx hby hml hrt hlk hZ hown hnm X0 e0 es0 => ?_)
  have N0 := Fr.nil n0
  rw [ef_RII_3 m a1 (0 : Int32) (40 : Int32)]
  have Kz := Keep.refl h0 []
  refine own_gk (XS.iloadN X0.here hx rfl (hb hby d42_0) rfl) ?_
  refine own_gk (XS.ifYes X0.here hx rfl (pc0 := 1) (pc' := 7) rfl (hb hby d42_1) rfl ((if0 _ _).trans (feq (by decide : ¬ ((40 : Int32) = (0 : Int32)))).2) (by decide) (by decide)) ?_
  obtain ⟨T384, h384, X384, e384, E384, A384, D384, U384, st384⟩ := newO X0 hx hZ hown (own_h hw 210 rfl) (own_h hw 6 rfl) (own_h hw 7 rfl) e0 (g := (mkF m 7 #[rv a1, iv (0 : Int32), iv (40 : Int32)] [])) rfl (hb hby d42_7) (by decide) (by decide)
  obtain ⟨b384, g384⟩ : ∃ z, z = h0.size := ⟨_, rfl⟩
  rw [← g384] at A384 D384 U384 st384
  refine own_by st384 ?_
  have ne_a1_b384 : a1 ≠ b384 := Nat.ne_of_lt (Nat.lt_of_lt_of_eq V_a1.lt g384.symm)
  have V_a1_384 := V_a1.ext E384
  have g_b384 : n0 ≤ b384 := Nat.le_trans Z0 (Nat.le_of_eq g384.symm)
  have sz_b384 : h0.size ≤ b384 := Nat.le_trans Kz.1 (Nat.le_of_eq g384.symm)
  have K384 := Kz.ext E384
  have Z384 : n0 ≤ h384.size := Nat.le_trans Z0 E384.1
  have E_b384 := A384
  have F_value_b384 : Fld Z h384 b384 "java/lang/String" "value" "[B" .null := D384 (Or.inr (own_h hw 20 rfl)) (ty := (.array .byte)) (by decide)
  have F_coder_b384 : Fld Z h384 b384 "java/lang/String" "coder" "B" (.int (0 : Int32)) := D384 (Or.inr (own_h hw 21 rfl)) (ty := .byte) (by decide)
  refine own_gk (XS.dup X384.here hx rfl (hb hby d42_10) rfl rfl) ?_
  refine own_gk (XS.aloadN X384.here hx rfl (hb hby d42_11) rfl rfl) ?_
  show own_Fin _ _ _ _ (T384.setTop (mkF m 12 #[rv a1, iv (0 : Int32), iv (40 : Int32)] [(.ref a1), (.ref b384), (.ref b384)]))
  refine own_gk (XS.iloadN X384.here hx rfl (hb hby d42_12) rfl) ?_
  refine own_gk (XS.iloadN X384.here hx rfl (hb hby d42_13) rfl) ?_
  refine own_gk (XS.iloadN X384.here hx rfl (hb hby d42_14) rfl) ?_
  refine own_gk (XS.iadd X384.here hx rfl (hb hby d42_15) rfl) ?_
  obtain ⟨_, T385, Lc385, X385, hQ385, st385⟩ := own_callS X384 hx hZ hown (own_h hw 211 rfl) (own_h hw 129 rfl) (own_h hw 130 rfl) (own_h hw 131 rfl) (by decide) (rmcor l Z a0 hw [] a1 k N (own_lo cs) 40 h384 n0 Z384 V_a1_384 (by omega) (by omega) (by omega)) (W := 2) (by decide) (by decide) (g := (mkF m 16 #[rv a1, iv (0 : Int32), iv (40 : Int32)] [(.int (40 : Int32)), (.int (0 : Int32)), (.ref a1), (.ref b384), (.ref b384)])) rfl (by rw [hml]; rfl) (argsL := [(.ref a1), (.int (0 : Int32)), (.int (40 : Int32))]) (rest := [(.ref b384), (.ref b384)]) (lenOf pd__28__5b_BII_29__5b_B rfl) rfl (Nat.le_of_eq rfl) (hb hby d42_16) rfl e384 (by decide) (by decide)
  refine own_go st385 ?_
  obtain ⟨b_385, kb_385, rfl, Nq385, K385, g_b_385, sb_b_385, r385_0⟩ := hQ385
  have ne_a1_b_385 : a1 ≠ b_385 := Nat.ne_of_lt (Nat.lt_of_lt_of_le V_a1_384.lt sb_b_385)
  have ne_b384_b_385 : b384 ≠ b_385 := Nat.ne_of_lt (Nat.lt_of_lt_of_le E_b384.lt sb_b_385)
  have sz_b_385 : h0.size ≤ b_385 := Nat.le_trans K384.1 sb_b_385
  have V_a1_385 := V_a1_384.keep K385 nin0
  have E_b384_385 := E_b384.keep K385
  have F_value_b384_385 := F_value_b384.keep K385 nin0
  have F_coder_b384_385 := F_coder_b384.keep K385 nin0
  have Z385 : n0 ≤ T385.heap.size := Nat.le_trans Z384 K385.1
  have Kt385 := K384.trans K385 all0
  have N385 := Fr.app N0 Nq385
  show own_Fin _ _ _ _ (T385.setTop (mkF m 19 #[rv a1, iv (0 : Int32), iv (40 : Int32)] [(.ref b_385), (.ref b384), (.ref b384)]))
  refine own_gk (XS.iconst X385.here hx rfl (hb hby d42_19)) ?_
  obtain ⟨_, T386, Lc386, X386, hQ386, st386⟩ := own_callI X385 hx hZ rfl hown (own_h hw 212 rfl) (own_h hw 213 rfl) (own_h hw 7 rfl) (own_h hw 214 rfl) (by decide) (rmib_0 l Z a0 hw [] b384 b_385 T385.heap n0 Z385 E_b384_385 F_value_b384_385 F_coder_b384_385 g_b384) (W := 1) (by decide) (by decide) (g := (mkF m 20 #[rv a1, iv (0 : Int32), iv (40 : Int32)] [(.int (0 : Int32)), (.ref b_385), (.ref b384), (.ref b384)])) rfl (by rw [hml]; rfl) (argsL := [(.ref b_385), (.int (0 : Int32))]) (rest := [(.ref b384)]) (lenOf pd__28__5b_BB_29_V rfl) rfl (Nat.le_of_eq rfl) (hb hby d42_20) rfl rfl (by decide) (by decide)
  refine own_go st386 ?_
  obtain ⟨rfl, Nq386, K386, r386_0, r386_1, r386_2⟩ := hQ386
  have V_a1_386 := V_a1_385.keep K386 (ninS ne_a1_b384 nin0)
  have E_b384_386 := E_b384_385.keep K386
  have r385_0_386 := r385_0.keep K386 (ninS (Ne.symm ne_b384_b_385) nin0)
  have Z386 : n0 ≤ T386.heap.size := Nat.le_trans Z385 K386.1
  have Kt386 := Kt385.trans K386 (allS (P := fun x => x ∈ _ ∨ _ ≤ x) (Or.inr sz_b384) all0)
  have N386 := Fr.app N385 Nq386
  obtain ⟨fs387, hr387, hrun387, hended387, hW387, hsame387⟩ := X386.leave (v := some (.ref b384)) (fun h => by rw [hrt] at h; cases h)
  refine own_done (retOut X386 hx hrt rfl (Or.inr (Or.inr (Or.inr (Or.inr ⟨rfl, rfl, rfl⟩)))) (hb hby d42_23) hr387) hrun387 hended387 ⟨_, _, rfl, ?_, ⟨_, rfl⟩, hW387, hsame387.mono (by decide) (by decide)⟩
  show QnsL Z a1 k N cs h0 n0 _ T386.heap _
  exact ⟨b384, rfl, N386, Kt386, g_b384, sz_b384, ⟨r386_0, b_385, kb_385, r386_1, Or.inl ⟨r386_2, fun i hi => hal i (by omega), r385_0_386⟩⟩⟩
def QcbL (Z : State) (a1 : Addr) (k : ClassId) (a3 : Addr) (kb : ClassId) (N : Nat) (cs : Nat → Int32) (h0 : Heap) (n0 : Nat) (v : Option Value) (h : Heap) (L : List Loc) : Prop := v = some (.int (40 : Int32)) ∧ Fr n0 L ∧ Keep h0 h [a3] ∧ Arv Z h a3 kb .byte (40 : Int32) (List.map Value.int (own_R (own_lo cs) 40)) (.int (0 : Int32))
theorem d60_0 : decode jdk_52_method_22_code 0 = .ok (.iload_n 1, 1) := by decide +kernel
theorem d60_1 : decode jdk_52_method_22_code 1 = .ok (.iload 4, 2) := by decide +kernel
theorem d60_3 : decode jdk_52_method_22_code 3 = .ok (.aload_n 0, 1) := by decide +kernel
theorem d60_4 : decode jdk_52_method_22_code 4 = .ok (.invokestatic 173, 3) := by decide +kernel
theorem d60_7 : decode jdk_52_method_22_code 7 = .ok (.iconst 0, 1) := by decide +kernel
theorem d60_8 : decode jdk_52_method_22_code 8 = .ok (.istore 5, 2) := by decide +kernel
theorem d60_10 : decode jdk_52_method_22_code 10 = .ok (.iload 5, 2) := by decide +kernel
theorem d60_12 : decode jdk_52_method_22_code 12 = .ok (.iload 4, 2) := by decide +kernel
theorem d60_14 : decode jdk_52_method_22_code 14 = .ok (.if_icmp .ge 39, 3) := by decide +kernel
theorem d60_53 : decode jdk_52_method_22_code 53 = .ok (.iload 4, 2) := by decide +kernel
theorem d60_55 : decode jdk_52_method_22_code 55 = .ok (.ireturn, 1) := by decide +kernel
theorem d60_17 : decode jdk_52_method_22_code 17 = .ok (.aload_n 0, 1) := by decide +kernel
theorem d60_18 : decode jdk_52_method_22_code 18 = .ok (.iload_n 1, 1) := by decide +kernel
theorem d60_19 : decode jdk_52_method_22_code 19 = .ok (.invokestatic 71, 3) := by decide +kernel
theorem d60_22 : decode jdk_52_method_22_code 22 = .ok (.istore 6, 2) := by decide +kernel
theorem d60_24 : decode jdk_52_method_22_code 24 = .ok (.iload 6, 2) := by decide +kernel
theorem d60_26 : decode jdk_52_method_22_code 26 = .ok (.sipush 255, 3) := by decide +kernel
theorem d60_29 : decode jdk_52_method_22_code 29 = .ok (.if_icmp .le 6, 3) := by decide +kernel
theorem d60_35 : decode jdk_52_method_22_code 35 = .ok (.aload_n 2, 1) := by decide +kernel
theorem d60_36 : decode jdk_52_method_22_code 36 = .ok (.iload_n 3, 1) := by decide +kernel
theorem d60_37 : decode jdk_52_method_22_code 37 = .ok (.iload 6, 2) := by decide +kernel
theorem d60_39 : decode jdk_52_method_22_code 39 = .ok (.i2b, 1) := by decide +kernel
theorem d60_40 : decode jdk_52_method_22_code 40 = .ok (.bastore, 1) := by decide +kernel
theorem d60_41 : decode jdk_52_method_22_code 41 = .ok (.iinc 1 1, 3) := by decide +kernel
theorem d60_44 : decode jdk_52_method_22_code 44 = .ok (.iinc 3 1, 3) := by decide +kernel
theorem d60_47 : decode jdk_52_method_22_code 47 = .ok (.iinc 5 1, 3) := by decide +kernel
theorem d60_50 : decode jdk_52_method_22_code 50 = .ok (.goto (-40), 3) := by decide +kernel
set_option maxRecDepth 65536 in
set_option maxHeartbeats 40000000 in
theorem rmcbL (l : Launch) (Z : State) (a0 : Array Value) (hw : ∀ d ∈ tables_1, d.before a0 Z = true) (ws : List Jvm.Cond) (a1 : Addr) (k : ClassId) (a3 : Addr) (kb : ClassId) (N : Nat) (cs : Nat → Int32) (h0 : Heap) (n0 : Nat) (Z0 : n0 ≤ h0.size) (V_a1 : Arv Z h0 a1 k .byte (Int32.ofNat (2 * N)) (List.map Value.int (own_R (own_u cs) (2 * N))) (.int (0 : Int32))) (V_a3 : Arv Z h0 a3 kb .byte (40 : Int32) (List.map Value.int (own_R ((fun _ => (0 : Int32))) 40)) (.int (0 : Int32))) (g_a3 : n0 ≤ a3) (ne13 : a1 ≠ a3) (hN : N ≤ 64) (hN4 : 40 < N) (hch : ∀ i, own_ch (cs i)) (O0 : own_Old Z n0 h0) (hST : own_ST Z) (hal : ∀ i, i < 40 → ¬ (255 : Int32) < cs i) : own_Met l own_y60 jdk_52_method_22_code 7 (some .int) ws ⟨3, 0, 0, 43⟩ #[(.ref a1), (.int (0 : Int32)), (.ref a3), (.int (0 : Int32)), (.int (40 : Int32))] Z h0 (QcbL Z a1 k a3 kb N cs h0 n0) := by
  refine own_met (plainFor_of_name pn_java_lang_StringUTF16) (fun p e s m below meth c s₁ hx hby hml hrt hlk hZ hown hnm X0 e0 es0 => ?_)
  have N0 := Fr.nil n0
  rw [ef_RIRII_7 m a1 (0 : Int32) a3 (0 : Int32) (40 : Int32)]
  have Kz := Keep.refl h0 [a3]
  refine own_gk (XS.iloadN X0.here hx rfl (hb hby d60_0) rfl) ?_
  refine own_gk (XS.iload X0.here hx rfl (hb hby d60_1) rfl) ?_
  refine own_gk (XS.aloadN X0.here hx rfl (hb hby d60_3) rfl rfl) ?_
  obtain ⟨_, T388, Lc388, X388, hQ388, st388⟩ := own_callS X0 hx hZ hown (own_h hw 248 rfl) (own_h hw 249 rfl) (own_h hw 170 rfl) (own_h hw 250 rfl) (by decide) (rmubo l Z a0 hw [] 0 40 N a1 k (own_u cs) h0 n0 Z0 V_a1 (by omega) (by omega) O0 hST) (W := 0) (by decide) (by decide) (g := (mkF m 4 #[rv a1, iv (0 : Int32), rv a3, iv (0 : Int32), iv (40 : Int32), .unset, .unset] [(.ref a1), (.int (40 : Int32)), (.int (0 : Int32))])) rfl (by rw [hml]; rfl) (argsL := [(.int (0 : Int32)), (.int (40 : Int32)), (.ref a1)]) (rest := []) (lenOf pd__28_II_5b_B_29_V rfl) rfl (Nat.le_of_eq rfl) (hb hby d60_4) rfl e0 (by decide) (by decide)
  obtain ⟨rfl, Nq388, e388⟩ := hQ388
  refine own_go st388 ?_
  have N388 := Fr.app N0 Nq388
  refine own_gk (XS.iconst X388.here hx rfl (hb hby d60_7)) ?_
  show own_Fin _ _ _ _ (T388.setTop (mkF m 8 #[rv a1, iv (0 : Int32), rv a3, iv (0 : Int32), iv (40 : Int32), .unset, .unset] [(.int (0 : Int32))]))
  refine own_gk (XS.istore X388.here hx rfl (hb hby d60_8) rfl rfl) ?_
  have lp389 : ∀ (d : Nat) (Tj389 : State) (Lj389 : List Loc) (hp389 : Heap) (i : Nat) (f : Nat → Int32) (s6 : Slot), Stand p l e ⟨3, 0, 0, 43⟩ s m #[(.ref a1), (.int (0 : Int32)), (.ref a3), (.int (0 : Int32)), (.int (40 : Int32))] below meth c Tj389 Lj389 0 0 → Tj389.heap = hp389 → Fr n0 Lj389 → n0 ≤ hp389.size → Keep h0 hp389 [a3] → (Arv Z hp389 a3 kb .byte (40 : Int32) (List.map Value.int (own_R f 40)) (.int (0 : Int32))) → (i + d = 40 ∧ (∀ j, j < i → f j = own_lo cs j) ∧ (s6 = .unset ∨ ∃ x : Int32, s6 = .val (.int x))) → own_Fin p e below (own_Gq (QcbL Z a1 k a3 kb N cs h0 n0) ⟨3, 0, 0, 43⟩ s) (Tj389.setTop (mkF m 10 #[rv a1, iv (Int32.ofNat (i)), rv a3, iv (Int32.ofNat (i)), iv (40 : Int32), iv (Int32.ofNat (i)), s6] [])) := by
    intro d
    induction d with
    | zero =>
      intro Tj389 Lj389 hp389 i f s6 Xj389 ej389 Nj389 Zj389 Kj389 Vj389_0 hv389
      have V_a1_j389 := V_a1.keep Kj389 (ninS ne13 nin0)
      have Oj389 := O0.keep Kj389 (allS g_a3 all0)
      obtain ⟨hv1, hv2, hs_s6⟩ := hv389
      refine own_gk (XS.iload Xj389.here hx rfl (hb hby d60_10) rfl) ?_
      refine own_gk (XS.iload Xj389.here hx rfl (hb hby d60_12) rfl) ?_
      refine own_gk (XS.icmpYes Xj389.here hx rfl (pc0 := 14) (pc' := 53) rfl (hb hby d60_14) rfl (flt (show ¬ ((Int32.ofNat (i)) < (40 : Int32)) from (fun q => absurd ((own_ltN (a := i) (b := 40) (by omega) (by omega)).mp q) (by omega)))).2.1 (by decide) (by decide)) ?_
      show own_Fin _ _ _ _ (Tj389.setTop (mkF m 53 #[rv a1, iv (Int32.ofNat (i)), rv a3, iv (Int32.ofNat (i)), iv (40 : Int32), iv (Int32.ofNat (i)), s6] []))
      refine own_gk (XS.iload Xj389.here hx rfl (hb hby d60_53) rfl) ?_
      obtain ⟨fs390, hr390, hrun390, hended390, hW390, hsame390⟩ := Xj389.leave (v := some (.int (40 : Int32))) (fun h => by rw [hrt] at h; cases h)
      refine own_done (own_retI Xj389 hx hrt (hb hby d60_55) hr390) hrun390 hended390 ⟨_, _, rfl, ?_, ⟨_, rfl⟩, hW390, hsame390.mono (by decide) (by decide)⟩
      show QcbL Z a1 k a3 kb N cs h0 n0 _ Tj389.heap _
      rw [ej389]
      exact ⟨rfl, Nj389, Kj389, (own_arvm Vj389_0 (own_congR (f := f) (g := own_lo cs) (n := 40) (fun j hj => hv2 j (by omega))))⟩
    | succ d ih389 =>
      intro Tj389 Lj389 hp389 i f s6 Xj389 ej389 Nj389 Zj389 Kj389 Vj389_0 hv389
      have V_a1_j389 := V_a1.keep Kj389 (ninS ne13 nin0)
      have Oj389 := O0.keep Kj389 (allS g_a3 all0)
      obtain ⟨hv1, hv2, hs_s6⟩ := hv389
      refine own_gk (XS.iload Xj389.here hx rfl (hb hby d60_10) rfl) ?_
      refine own_gk (XS.iload Xj389.here hx rfl (hb hby d60_12) rfl) ?_
      refine own_gk (XS.icmpNo Xj389.here hx rfl (hb hby d60_14) rfl (tlt (show (Int32.ofNat (i)) < (40 : Int32) from ((own_ltN (a := i) (b := 40) (by omega) (by omega)).mpr (by omega)))).2.1) ?_
      show own_Fin _ _ _ _ (Tj389.setTop (mkF m 17 #[rv a1, iv (Int32.ofNat (i)), rv a3, iv (Int32.ofNat (i)), iv (40 : Int32), iv (Int32.ofNat (i)), s6] []))
      refine own_gk (XS.aloadN Xj389.here hx rfl (hb hby d60_17) rfl rfl) ?_
      refine own_gk (XS.iloadN Xj389.here hx rfl (hb hby d60_18) rfl) ?_
      obtain ⟨_, T391, Lc391, X391, hQ391, st391⟩ := own_callS Xj389 hx hZ hown (own_h hw 232 rfl) (own_h hw 233 rfl) (own_h hw 170 rfl) (own_h hw 234 rfl) (by decide) (rmgc l Z a0 hw [] a1 k (2 * N) (own_u cs) i (cs i) hp389 n0 Zj389 V_a1_j389 Oj389 hST (by omega) (by omega) (own_u0 _ _) (own_u1 _ _) (hch _)) (W := 0) (by decide) (by decide) (g := (mkF m 19 #[rv a1, iv (Int32.ofNat (i)), rv a3, iv (Int32.ofNat (i)), iv (40 : Int32), iv (Int32.ofNat (i)), s6] [(.int (Int32.ofNat (i))), (.ref a1)])) rfl (by rw [hml]; rfl) (argsL := [(.ref a1), (.int (Int32.ofNat (i)))]) (rest := []) (lenOf pd__28__5b_BI_29_C rfl) rfl (Nat.le_of_eq rfl) (hb hby d60_19) rfl ej389 (by decide) (by decide)
      obtain ⟨rfl, Nq391, e391⟩ := hQ391
      refine own_go st391 ?_
      have N391 := Fr.app Nj389 Nq391
      refine own_gk (XS.istore X391.here hx rfl (l' := #[rv a1, iv (Int32.ofNat (i)), rv a3, iv (Int32.ofNat (i)), iv (40 : Int32), iv (Int32.ofNat (i)), iv (cs i)]) (hb hby d60_22) rfl (by rcases hs_s6 with rfl | ⟨x_, rfl⟩ <;> rfl)) ?_
      refine own_gk (XS.iload X391.here hx rfl (hb hby d60_24) rfl) ?_
      show own_Fin _ _ _ _ (T391.setTop (mkF m 26 #[rv a1, iv (Int32.ofNat (i)), rv a3, iv (Int32.ofNat (i)), iv (40 : Int32), iv (Int32.ofNat (i)), iv (cs i)] [(.int (cs i))]))
      refine own_gk (XS.sipush X391.here hx rfl (hb hby d60_26)) ?_
      refine own_gk (XS.icmpYes X391.here hx rfl (pc0 := 29) (pc' := 35) rfl (hb hby d60_29) rfl (flt (show ¬ ((255 : Int32) < (cs i)) from (hal _ (by omega)))).2.2.2 (by decide) (by decide)) ?_
      refine own_gk (XS.aloadN X391.here hx rfl (hb hby d60_35) rfl rfl) ?_
      refine own_gk (XS.iloadN X391.here hx rfl (hb hby d60_36) rfl) ?_
      refine own_gk (XS.iload X391.here hx rfl (hb hby d60_37) rfl) ?_
      show own_Fin _ _ _ _ (T391.setTop (mkF m 39 #[rv a1, iv (Int32.ofNat (i)), rv a3, iv (Int32.ofNat (i)), iv (40 : Int32), iv (Int32.ofNat (i)), iv (cs i)] [(.int (cs i)), (.int (Int32.ofNat (i))), (.ref a3)]))
      refine own_gk (XS.i2b X391.here hx rfl (hb hby d60_39) rfl) ?_
      obtain ⟨cl392, Ar392, qa392, Sa392, Na392, Ha392, Ga392⟩ := id Vj389_0
      have hin392 : ¬ ((Int32.ofNat (i)) < 0 ∨ cl392.slots.size ≤ ((Int32.ofNat (i))).toNatClampNeg) := inb_of Sa392 (own_inb (i := i) (n := 40) (by omega) (by omega))
      obtain ⟨T393, h393, X393, e393, W393, st393⟩ := stB X391 hx hZ e391 Ar392 (j := (Int32.ofNat (i))) hin392 (g := (mkF m 40 #[rv a1, iv (Int32.ofNat (i)), rv a3, iv (Int32.ofNat (i)), iv (40 : Int32), iv (Int32.ofNat (i)), iv (cs i)] [(.int ((cs i).toInt8.toInt32)), (.int (Int32.ofNat (i))), (.ref a3)])) rfl rfl (hb hby d60_40)
      refine own_by st393 ?_
      have V_a3_393 : Arv Z h393 a3 kb .byte (40 : Int32) (List.map Value.int ((own_R f 40).set ((Int32.ofNat (i))).toNatClampNeg (nar .byte ((cs i).toInt8.toInt32)))) (.int (0 : Int32)) := by
        rw [List.map_set]; exact Arv.set Ar392 qa392 Sa392 Na392 Ha392 Ga392 (fits_nar_byte ((cs i).toInt8.toInt32)) W393 _ rfl (own_inl (i := i) (n := 40) (by omega) (by omega))
      have Od393 := Oj389.wr W393 g_a3
      have V_a1_j389_393 := V_a1_j389.other W393 ne13
      have N393 := Fr.snoc X393 N391 g_a3
      have Z393 : n0 ≤ h393.size := Nat.le_trans Zj389 (Keep.of_wr W393).1
      have K393 := Kj389.wr W393 (Or.inl (List.mem_of_getElem? (i := 0) rfl))
      have V_a3_u394 : Arv Z h393 a3 kb .byte (40 : Int32) (List.map Value.int (own_R (own_up f i (nar .byte ((cs i).toInt8.toInt32))) 40)) (.int (0 : Int32)) := own_arvm V_a3_393 (own_setR (f := f) (n := 40) (i := i) (z := (nar .byte ((cs i).toInt8.toInt32))) (by omega))
      refine own_gk (XS.iinc X393.here hx rfl (hb hby d60_41) rfl rfl) ?_
      show own_Fin _ _ _ _ (T393.setTop (mkF m 44 #[rv a1, iv ((Int32.ofNat (i)) + (1 : Int32)), rv a3, iv (Int32.ofNat (i)), iv (40 : Int32), iv (Int32.ofNat (i)), iv (cs i)] []))
      rw [show ((Int32.ofNat (i)) + (1 : Int32)) = Int32.ofNat (i + 1) from (own_addN i 1)]
      refine own_gk (XS.iinc X393.here hx rfl (hb hby d60_44) rfl rfl) ?_
      show own_Fin _ _ _ _ (T393.setTop (mkF m 47 #[rv a1, iv (Int32.ofNat (i + 1)), rv a3, iv ((Int32.ofNat (i)) + (1 : Int32)), iv (40 : Int32), iv (Int32.ofNat (i)), iv (cs i)] []))
      rw [show ((Int32.ofNat (i)) + (1 : Int32)) = Int32.ofNat (i + 1) from (own_addN i 1)]
      refine own_gk (XS.iinc X393.here hx rfl (hb hby d60_47) rfl rfl) ?_
      show own_Fin _ _ _ _ (T393.setTop (mkF m 50 #[rv a1, iv (Int32.ofNat (i + 1)), rv a3, iv (Int32.ofNat (i + 1)), iv (40 : Int32), iv ((Int32.ofNat (i)) + (1 : Int32)), iv (cs i)] []))
      rw [show ((Int32.ofNat (i)) + (1 : Int32)) = Int32.ofNat (i + 1) from (own_addN i 1)]
      refine own_gk (XS.goto X393.here hx rfl (pc0 := 50) (pc' := 10) rfl (hb hby d60_50) (by decide) (by decide)) ?_
      exact ih389 T393 _ h393 (i + 1) (own_up f i (nar .byte ((cs i).toInt8.toInt32))) (iv (cs i)) X393 e393 N393 Z393 K393 V_a3_u394 (⟨by omega, own_ext1 hv2 rfl, Or.inr ⟨_, rfl⟩⟩)
  exact lp389 40 T388 _ h0 0 (fun _ => (0 : Int32)) .unset X388 e388 N388 Z0 Kz V_a3 (⟨by omega, fun j hj => absurd hj (Nat.not_lt_zero _), Or.inl rfl⟩)
def QcbU (Z : State) (a1 : Addr) (k : ClassId) (a3 : Addr) (kb : ClassId) (N : Nat) (cs : Nat → Int32) (i0 : Nat) (h0 : Heap) (n0 : Nat) (v : Option Value) (h : Heap) (L : List Loc) : Prop := v = some (.int (Int32.ofNat (i0))) ∧ Fr n0 L ∧ Keep h0 h [a3]
theorem d60_32 : decode jdk_52_method_22_code 32 = .ok (.iload 5, 2) := by decide +kernel
theorem d60_34 : decode jdk_52_method_22_code 34 = .ok (.ireturn, 1) := by decide +kernel
set_option maxRecDepth 65536 in
set_option maxHeartbeats 40000000 in
theorem rmcbU (l : Launch) (Z : State) (a0 : Array Value) (hw : ∀ d ∈ tables_1, d.before a0 Z = true) (ws : List Jvm.Cond) (a1 : Addr) (k : ClassId) (a3 : Addr) (kb : ClassId) (N : Nat) (cs : Nat → Int32) (i0 : Nat) (h0 : Heap) (n0 : Nat) (Z0 : n0 ≤ h0.size) (V_a1 : Arv Z h0 a1 k .byte (Int32.ofNat (2 * N)) (List.map Value.int (own_R (own_u cs) (2 * N))) (.int (0 : Int32))) (V_a3 : Arv Z h0 a3 kb .byte (40 : Int32) (List.map Value.int (own_R ((fun _ => (0 : Int32))) 40)) (.int (0 : Int32))) (g_a3 : n0 ≤ a3) (ne13 : a1 ≠ a3) (hN : N ≤ 64) (hN4 : 40 < N) (hch : ∀ i, own_ch (cs i)) (O0 : own_Old Z n0 h0) (hST : own_ST Z) (hi0 : i0 < 40) (hbig : (255 : Int32) < cs i0) (hlt : ∀ j, j < i0 → ¬ (255 : Int32) < cs j) : own_Met l own_y60 jdk_52_method_22_code 7 (some .int) ws ⟨3, 0, 0, 43⟩ #[(.ref a1), (.int (0 : Int32)), (.ref a3), (.int (0 : Int32)), (.int (40 : Int32))] Z h0 (QcbU Z a1 k a3 kb N cs i0 h0 n0) := by
  refine own_met (plainFor_of_name pn_java_lang_StringUTF16) (fun p e s m below meth c s₁ hx hby hml hrt hlk hZ hown hnm X0 e0 es0 => ?_)
  have N0 := Fr.nil n0
  rw [ef_RIRII_7 m a1 (0 : Int32) a3 (0 : Int32) (40 : Int32)]
  have Kz := Keep.refl h0 [a3]
  refine own_gk (XS.iloadN X0.here hx rfl (hb hby d60_0) rfl) ?_
  refine own_gk (XS.iload X0.here hx rfl (hb hby d60_1) rfl) ?_
  refine own_gk (XS.aloadN X0.here hx rfl (hb hby d60_3) rfl rfl) ?_
  obtain ⟨_, T395, Lc395, X395, hQ395, st395⟩ := own_callS X0 hx hZ hown (own_h hw 248 rfl) (own_h hw 249 rfl) (own_h hw 170 rfl) (own_h hw 250 rfl) (by decide) (rmubo l Z a0 hw [] 0 40 N a1 k (own_u cs) h0 n0 Z0 V_a1 (by omega) (by omega) O0 hST) (W := 0) (by decide) (by decide) (g := (mkF m 4 #[rv a1, iv (0 : Int32), rv a3, iv (0 : Int32), iv (40 : Int32), .unset, .unset] [(.ref a1), (.int (40 : Int32)), (.int (0 : Int32))])) rfl (by rw [hml]; rfl) (argsL := [(.int (0 : Int32)), (.int (40 : Int32)), (.ref a1)]) (rest := []) (lenOf pd__28_II_5b_B_29_V rfl) rfl (Nat.le_of_eq rfl) (hb hby d60_4) rfl e0 (by decide) (by decide)
  obtain ⟨rfl, Nq395, e395⟩ := hQ395
  refine own_go st395 ?_
  have N395 := Fr.app N0 Nq395
  refine own_gk (XS.iconst X395.here hx rfl (hb hby d60_7)) ?_
  show own_Fin _ _ _ _ (T395.setTop (mkF m 8 #[rv a1, iv (0 : Int32), rv a3, iv (0 : Int32), iv (40 : Int32), .unset, .unset] [(.int (0 : Int32))]))
  refine own_gk (XS.istore X395.here hx rfl (hb hby d60_8) rfl rfl) ?_
  have lp396 : ∀ (d : Nat) (Tj396 : State) (Lj396 : List Loc) (hp396 : Heap) (i : Nat) (f : Nat → Int32) (s6 : Slot), Stand p l e ⟨3, 0, 0, 43⟩ s m #[(.ref a1), (.int (0 : Int32)), (.ref a3), (.int (0 : Int32)), (.int (40 : Int32))] below meth c Tj396 Lj396 0 0 → Tj396.heap = hp396 → Fr n0 Lj396 → n0 ≤ hp396.size → Keep h0 hp396 [a3] → (Arv Z hp396 a3 kb .byte (40 : Int32) (List.map Value.int (own_R f 40)) (.int (0 : Int32))) → (i + d = i0 ∧ (s6 = .unset ∨ ∃ x : Int32, s6 = .val (.int x))) → own_Fin p e below (own_Gq (QcbU Z a1 k a3 kb N cs i0 h0 n0) ⟨3, 0, 0, 43⟩ s) (Tj396.setTop (mkF m 10 #[rv a1, iv (Int32.ofNat (i)), rv a3, iv (Int32.ofNat (i)), iv (40 : Int32), iv (Int32.ofNat (i)), s6] [])) := by
    intro d
    induction d with
    | zero =>
      intro Tj396 Lj396 hp396 i f s6 Xj396 ej396 Nj396 Zj396 Kj396 Vj396_0 hv396
      have V_a1_j396 := V_a1.keep Kj396 (ninS ne13 nin0)
      have Oj396 := O0.keep Kj396 (allS g_a3 all0)
      obtain ⟨hv1, hs_s6⟩ := hv396
      refine own_gk (XS.iload Xj396.here hx rfl (hb hby d60_10) rfl) ?_
      refine own_gk (XS.iload Xj396.here hx rfl (hb hby d60_12) rfl) ?_
      refine own_gk (XS.icmpNo Xj396.here hx rfl (hb hby d60_14) rfl (tlt (show (Int32.ofNat (i)) < (40 : Int32) from ((own_ltN (a := i) (b := 40) (by omega) (by omega)).mpr (by omega)))).2.1) ?_
      show own_Fin _ _ _ _ (Tj396.setTop (mkF m 17 #[rv a1, iv (Int32.ofNat (i)), rv a3, iv (Int32.ofNat (i)), iv (40 : Int32), iv (Int32.ofNat (i)), s6] []))
      refine own_gk (XS.aloadN Xj396.here hx rfl (hb hby d60_17) rfl rfl) ?_
      refine own_gk (XS.iloadN Xj396.here hx rfl (hb hby d60_18) rfl) ?_
      obtain ⟨_, T397, Lc397, X397, hQ397, st397⟩ := own_callS Xj396 hx hZ hown (own_h hw 232 rfl) (own_h hw 233 rfl) (own_h hw 170 rfl) (own_h hw 234 rfl) (by decide) (rmgc l Z a0 hw [] a1 k (2 * N) (own_u cs) i (cs i) hp396 n0 Zj396 V_a1_j396 Oj396 hST (by omega) (by omega) (own_u0 _ _) (own_u1 _ _) (hch _)) (W := 0) (by decide) (by decide) (g := (mkF m 19 #[rv a1, iv (Int32.ofNat (i)), rv a3, iv (Int32.ofNat (i)), iv (40 : Int32), iv (Int32.ofNat (i)), s6] [(.int (Int32.ofNat (i))), (.ref a1)])) rfl (by rw [hml]; rfl) (argsL := [(.ref a1), (.int (Int32.ofNat (i)))]) (rest := []) (lenOf pd__28__5b_BI_29_C rfl) rfl (Nat.le_of_eq rfl) (hb hby d60_19) rfl ej396 (by decide) (by decide)
      obtain ⟨rfl, Nq397, e397⟩ := hQ397
      refine own_go st397 ?_
      have N397 := Fr.app Nj396 Nq397
      refine own_gk (XS.istore X397.here hx rfl (l' := #[rv a1, iv (Int32.ofNat (i)), rv a3, iv (Int32.ofNat (i)), iv (40 : Int32), iv (Int32.ofNat (i)), iv (cs i)]) (hb hby d60_22) rfl (by rcases hs_s6 with rfl | ⟨x_, rfl⟩ <;> rfl)) ?_
      refine own_gk (XS.iload X397.here hx rfl (hb hby d60_24) rfl) ?_
      show own_Fin _ _ _ _ (T397.setTop (mkF m 26 #[rv a1, iv (Int32.ofNat (i)), rv a3, iv (Int32.ofNat (i)), iv (40 : Int32), iv (Int32.ofNat (i)), iv (cs i)] [(.int (cs i))]))
      refine own_gk (XS.sipush X397.here hx rfl (hb hby d60_26)) ?_
      refine own_gk (XS.icmpNo X397.here hx rfl (hb hby d60_29) rfl (tlt (show (255 : Int32) < (cs i) from (by rw [show i = i0 by omega]; exact hbig))).2.2.2) ?_
      refine own_gk (XS.iload X397.here hx rfl (hb hby d60_32) rfl) ?_
      obtain ⟨fs398, hr398, hrun398, hended398, hW398, hsame398⟩ := X397.leave (v := some (.int (Int32.ofNat (i)))) (fun h => by rw [hrt] at h; cases h)
      refine own_done (own_retI X397 hx hrt (hb hby d60_34) hr398) hrun398 hended398 ⟨_, _, rfl, ?_, ⟨_, rfl⟩, hW398, hsame398.mono (by decide) (by decide)⟩
      show QcbU Z a1 k a3 kb N cs i0 h0 n0 _ T397.heap _
      rw [e397]
      exact ⟨(by rw [show i = i0 by omega]), N397, Kj396⟩
    | succ d ih396 =>
      intro Tj396 Lj396 hp396 i f s6 Xj396 ej396 Nj396 Zj396 Kj396 Vj396_0 hv396
      have V_a1_j396 := V_a1.keep Kj396 (ninS ne13 nin0)
      have Oj396 := O0.keep Kj396 (allS g_a3 all0)
      obtain ⟨hv1, hs_s6⟩ := hv396
      refine own_gk (XS.iload Xj396.here hx rfl (hb hby d60_10) rfl) ?_
      refine own_gk (XS.iload Xj396.here hx rfl (hb hby d60_12) rfl) ?_
      refine own_gk (XS.icmpNo Xj396.here hx rfl (hb hby d60_14) rfl (tlt (show (Int32.ofNat (i)) < (40 : Int32) from ((own_ltN (a := i) (b := 40) (by omega) (by omega)).mpr (by omega)))).2.1) ?_
      show own_Fin _ _ _ _ (Tj396.setTop (mkF m 17 #[rv a1, iv (Int32.ofNat (i)), rv a3, iv (Int32.ofNat (i)), iv (40 : Int32), iv (Int32.ofNat (i)), s6] []))
      refine own_gk (XS.aloadN Xj396.here hx rfl (hb hby d60_17) rfl rfl) ?_
      refine own_gk (XS.iloadN Xj396.here hx rfl (hb hby d60_18) rfl) ?_
      obtain ⟨_, T399, Lc399, X399, hQ399, st399⟩ := own_callS Xj396 hx hZ hown (own_h hw 232 rfl) (own_h hw 233 rfl) (own_h hw 170 rfl) (own_h hw 234 rfl) (by decide) (rmgc l Z a0 hw [] a1 k (2 * N) (own_u cs) i (cs i) hp396 n0 Zj396 V_a1_j396 Oj396 hST (by omega) (by omega) (own_u0 _ _) (own_u1 _ _) (hch _)) (W := 0) (by decide) (by decide) (g := (mkF m 19 #[rv a1, iv (Int32.ofNat (i)), rv a3, iv (Int32.ofNat (i)), iv (40 : Int32), iv (Int32.ofNat (i)), s6] [(.int (Int32.ofNat (i))), (.ref a1)])) rfl (by rw [hml]; rfl) (argsL := [(.ref a1), (.int (Int32.ofNat (i)))]) (rest := []) (lenOf pd__28__5b_BI_29_C rfl) rfl (Nat.le_of_eq rfl) (hb hby d60_19) rfl ej396 (by decide) (by decide)
      obtain ⟨rfl, Nq399, e399⟩ := hQ399
      refine own_go st399 ?_
      have N399 := Fr.app Nj396 Nq399
      refine own_gk (XS.istore X399.here hx rfl (l' := #[rv a1, iv (Int32.ofNat (i)), rv a3, iv (Int32.ofNat (i)), iv (40 : Int32), iv (Int32.ofNat (i)), iv (cs i)]) (hb hby d60_22) rfl (by rcases hs_s6 with rfl | ⟨x_, rfl⟩ <;> rfl)) ?_
      refine own_gk (XS.iload X399.here hx rfl (hb hby d60_24) rfl) ?_
      show own_Fin _ _ _ _ (T399.setTop (mkF m 26 #[rv a1, iv (Int32.ofNat (i)), rv a3, iv (Int32.ofNat (i)), iv (40 : Int32), iv (Int32.ofNat (i)), iv (cs i)] [(.int (cs i))]))
      refine own_gk (XS.sipush X399.here hx rfl (hb hby d60_26)) ?_
      refine own_gk (XS.icmpYes X399.here hx rfl (pc0 := 29) (pc' := 35) rfl (hb hby d60_29) rfl (flt (show ¬ ((255 : Int32) < (cs i)) from (hlt _ (by omega)))).2.2.2 (by decide) (by decide)) ?_
      refine own_gk (XS.aloadN X399.here hx rfl (hb hby d60_35) rfl rfl) ?_
      refine own_gk (XS.iloadN X399.here hx rfl (hb hby d60_36) rfl) ?_
      refine own_gk (XS.iload X399.here hx rfl (hb hby d60_37) rfl) ?_
      show own_Fin _ _ _ _ (T399.setTop (mkF m 39 #[rv a1, iv (Int32.ofNat (i)), rv a3, iv (Int32.ofNat (i)), iv (40 : Int32), iv (Int32.ofNat (i)), iv (cs i)] [(.int (cs i)), (.int (Int32.ofNat (i))), (.ref a3)]))
      refine own_gk (XS.i2b X399.here hx rfl (hb hby d60_39) rfl) ?_
      obtain ⟨cl400, Ar400, qa400, Sa400, Na400, Ha400, Ga400⟩ := id Vj396_0
      have hin400 : ¬ ((Int32.ofNat (i)) < 0 ∨ cl400.slots.size ≤ ((Int32.ofNat (i))).toNatClampNeg) := inb_of Sa400 (own_inb (i := i) (n := 40) (by omega) (by omega))
      obtain ⟨T401, h401, X401, e401, W401, st401⟩ := stB X399 hx hZ e399 Ar400 (j := (Int32.ofNat (i))) hin400 (g := (mkF m 40 #[rv a1, iv (Int32.ofNat (i)), rv a3, iv (Int32.ofNat (i)), iv (40 : Int32), iv (Int32.ofNat (i)), iv (cs i)] [(.int ((cs i).toInt8.toInt32)), (.int (Int32.ofNat (i))), (.ref a3)])) rfl rfl (hb hby d60_40)
      refine own_by st401 ?_
      have V_a3_401 : Arv Z h401 a3 kb .byte (40 : Int32) (List.map Value.int ((own_R f 40).set ((Int32.ofNat (i))).toNatClampNeg (nar .byte ((cs i).toInt8.toInt32)))) (.int (0 : Int32)) := by
        rw [List.map_set]; exact Arv.set Ar400 qa400 Sa400 Na400 Ha400 Ga400 (fits_nar_byte ((cs i).toInt8.toInt32)) W401 _ rfl (own_inl (i := i) (n := 40) (by omega) (by omega))
      have Od401 := Oj396.wr W401 g_a3
      have V_a1_j396_401 := V_a1_j396.other W401 ne13
      have N401 := Fr.snoc X401 N399 g_a3
      have Z401 : n0 ≤ h401.size := Nat.le_trans Zj396 (Keep.of_wr W401).1
      have K401 := Kj396.wr W401 (Or.inl (List.mem_of_getElem? (i := 0) rfl))
      have V_a3_u402 : Arv Z h401 a3 kb .byte (40 : Int32) (List.map Value.int (own_R (own_up f i (nar .byte ((cs i).toInt8.toInt32))) 40)) (.int (0 : Int32)) := own_arvm V_a3_401 (own_setR (f := f) (n := 40) (i := i) (z := (nar .byte ((cs i).toInt8.toInt32))) (by omega))
      refine own_gk (XS.iinc X401.here hx rfl (hb hby d60_41) rfl rfl) ?_
      show own_Fin _ _ _ _ (T401.setTop (mkF m 44 #[rv a1, iv ((Int32.ofNat (i)) + (1 : Int32)), rv a3, iv (Int32.ofNat (i)), iv (40 : Int32), iv (Int32.ofNat (i)), iv (cs i)] []))
      rw [show ((Int32.ofNat (i)) + (1 : Int32)) = Int32.ofNat (i + 1) from (own_addN i 1)]
      refine own_gk (XS.iinc X401.here hx rfl (hb hby d60_44) rfl rfl) ?_
      show own_Fin _ _ _ _ (T401.setTop (mkF m 47 #[rv a1, iv (Int32.ofNat (i + 1)), rv a3, iv ((Int32.ofNat (i)) + (1 : Int32)), iv (40 : Int32), iv (Int32.ofNat (i)), iv (cs i)] []))
      rw [show ((Int32.ofNat (i)) + (1 : Int32)) = Int32.ofNat (i + 1) from (own_addN i 1)]
      refine own_gk (XS.iinc X401.here hx rfl (hb hby d60_47) rfl rfl) ?_
      show own_Fin _ _ _ _ (T401.setTop (mkF m 50 #[rv a1, iv (Int32.ofNat (i + 1)), rv a3, iv (Int32.ofNat (i + 1)), iv (40 : Int32), iv ((Int32.ofNat (i)) + (1 : Int32)), iv (cs i)] []))
      rw [show ((Int32.ofNat (i)) + (1 : Int32)) = Int32.ofNat (i + 1) from (own_addN i 1)]
      refine own_gk (XS.goto X401.here hx rfl (pc0 := 50) (pc' := 10) rfl (hb hby d60_50) (by decide) (by decide)) ?_
      exact ih396 T401 _ h401 (i + 1) (own_up f i (nar .byte ((cs i).toInt8.toInt32))) (iv (cs i)) X401 e401 N401 Z401 K401 V_a3_u402 (⟨by omega, Or.inr ⟨_, rfl⟩⟩)
  exact lp396 i0 T395 _ h0 0 (fun _ => (0 : Int32)) .unset X395 e395 N395 Z0 Kz V_a3 (⟨by omega, Or.inl rfl⟩)
def Qc3bL (Z : State) (a1 : Addr) (k : ClassId) (N : Nat) (cs : Nat → Int32) (h0 : Heap) (n0 : Nat) (v : Option Value) (h : Heap) (L : List Loc) : Prop := ∃ (b : Addr) (kb : ClassId), v = some (.ref b) ∧ Fr n0 L ∧ Keep h0 h [] ∧ n0 ≤ b ∧ h0.size ≤ b ∧ Arv Z h b kb .byte (40 : Int32) (List.map Value.int (own_R (own_lo cs) 40)) (.int (0 : Int32))
theorem d59_0 : decode jdk_52_method_17_code 0 = .ok (.iload_n 2, 1) := by decide +kernel
theorem d59_1 : decode jdk_52_method_17_code 1 = .ok (.newarray .byte, 2) := by decide +kernel
theorem d59_3 : decode jdk_52_method_17_code 3 = .ok (.astore_n 3, 1) := by decide +kernel
theorem d59_4 : decode jdk_52_method_17_code 4 = .ok (.aload_n 0, 1) := by decide +kernel
theorem d59_5 : decode jdk_52_method_17_code 5 = .ok (.iload_n 1, 1) := by decide +kernel
theorem d59_6 : decode jdk_52_method_17_code 6 = .ok (.aload_n 3, 1) := by decide +kernel
theorem d59_7 : decode jdk_52_method_17_code 7 = .ok (.iconst 0, 1) := by decide +kernel
theorem d59_8 : decode jdk_52_method_17_code 8 = .ok (.iload_n 2, 1) := by decide +kernel
theorem d59_9 : decode jdk_52_method_17_code 9 = .ok (.invokestatic 123, 3) := by decide +kernel
theorem pd__28__5b_BI_5b_BII_29_I : parseMethodDescriptor "([BI[BII)I" = some ⟨[(.array .byte), .int, (.array .byte), .int, .int], some .int⟩ := by decide +kernel
theorem d59_12 : decode jdk_52_method_17_code 12 = .ok (.istore 4, 2) := by decide +kernel
theorem d59_14 : decode jdk_52_method_17_code 14 = .ok (.iload 4, 2) := by decide +kernel
theorem d59_16 : decode jdk_52_method_17_code 16 = .ok (.iload_n 2, 1) := by decide +kernel
theorem d59_17 : decode jdk_52_method_17_code 17 = .ok (.if_icmp .eq 47, 3) := by decide +kernel
theorem d59_64 : decode jdk_52_method_17_code 64 = .ok (.aload_n 3, 1) := by decide +kernel
theorem d59_65 : decode jdk_52_method_17_code 65 = .ok (.areturn, 1) := by decide +kernel
set_option maxRecDepth 65536 in
set_option maxHeartbeats 40000000 in
theorem rmc3bL (l : Launch) (Z : State) (a0 : Array Value) (hw : ∀ d ∈ tables_1, d.before a0 Z = true) (ws : List Jvm.Cond) (a1 : Addr) (k : ClassId) (N : Nat) (cs : Nat → Int32) (h0 : Heap) (n0 : Nat) (Z0 : n0 ≤ h0.size) (V_a1 : Arv Z h0 a1 k .byte (Int32.ofNat (2 * N)) (List.map Value.int (own_R (own_u cs) (2 * N))) (.int (0 : Int32))) (hN : N ≤ 64) (hN4 : 40 < N) (hch : ∀ i, own_ch (cs i)) (O0 : own_Old Z n0 h0) (hST : own_ST Z) (hal : ∀ i, i < 40 → ¬ (255 : Int32) < cs i) : own_Met l own_y59 jdk_52_method_17_code 6 (some (.array .byte)) ws ⟨4, 1, 40, 61⟩ #[(.ref a1), (.int (0 : Int32)), (.int (40 : Int32))] Z h0 (Qc3bL Z a1 k N cs h0 n0) := by
  refine own_met (plainFor_of_name pn_java_lang_StringUTF16) (fun p e s m below meth c s₁ hx hby hml hrt hlk hZ hown hnm X0 e0 es0 => ?_)
  have N0 := Fr.nil n0
  rw [ef_RII_6 m a1 (0 : Int32) (40 : Int32)]
  have Kz := Keep.refl h0 []
  refine own_gk (XS.iloadN X0.here hx rfl (hb hby d59_0) rfl) ?_
  obtain ⟨T403, h403, k403, X403, e403, E403, A403, st403⟩ := newP X0 hx hZ (own_h hw 19 rfl) e0 (g := (mkF m 1 #[rv a1, iv (0 : Int32), iv (40 : Int32), .unset, .unset, .unset] [(.int (40 : Int32))])) rfl (hb hby d59_1) (n := (40 : Int32)) rfl (own_nn (a := 40) (by omega)) (cap := 40) (Nat.le_trans (Nat.le_of_eq (own_tn (a := 40) (by omega))) (by omega)) (by decide) (by decide) (by decide)
  obtain ⟨b403, g403⟩ : ∃ z, z = h0.size := ⟨_, rfl⟩
  rw [← g403] at A403 st403
  refine own_by st403 ?_
  have ne_a1_b403 : a1 ≠ b403 := Nat.ne_of_lt (Nat.lt_of_lt_of_eq V_a1.lt g403.symm)
  have Od403 := O0.ext E403
  have V_a1_403 := V_a1.ext E403
  have g_b403 : n0 ≤ b403 := Nat.le_trans Z0 (Nat.le_of_eq g403.symm)
  have sz_b403 : h0.size ≤ b403 := Nat.le_trans Kz.1 (Nat.le_of_eq g403.symm)
  have K403 := Kz.ext E403
  have Z403 : n0 ≤ h403.size := Nat.le_trans Z0 E403.1
  have V_b403 : Arv Z h403 b403 k403 .byte (40 : Int32) (List.map Value.int (own_R ((fun _ => (0 : Int32))) 40)) (.int (0 : Int32)) := (Arv.new A403 (own_nn (a := 40) (by omega))).pad (own_pad0 _)
  refine own_gk (XS.astoreN X403.here hx rfl (hb hby d59_3) rfl rfl rfl) ?_
  refine own_gk (XS.aloadN X403.here hx rfl (hb hby d59_4) rfl rfl) ?_
  refine own_gk (XS.iloadN X403.here hx rfl (hb hby d59_5) rfl) ?_
  show own_Fin _ _ _ _ (T403.setTop (mkF m 6 #[rv a1, iv (0 : Int32), iv (40 : Int32), rv b403, .unset, .unset] [(.int (0 : Int32)), (.ref a1)]))
  refine own_gk (XS.aloadN X403.here hx rfl (hb hby d59_6) rfl rfl) ?_
  refine own_gk (XS.iconst X403.here hx rfl (hb hby d59_7)) ?_
  refine own_gk (XS.iloadN X403.here hx rfl (hb hby d59_8) rfl) ?_
  obtain ⟨_, T404, Lc404, X404, hQ404, st404⟩ := own_callS X403 hx hZ hown (own_h hw 277 rfl) (own_h hw 278 rfl) (own_h hw 170 rfl) (own_h hw 279 rfl) (by decide) (rmcbL l Z a0 hw [] a1 k b403 k403 N cs h403 n0 Z403 V_a1_403 V_b403 g_b403 ne_a1_b403 hN hN4 hch Od403 hST hal) (W := 0) (by decide) (by decide) (g := (mkF m 9 #[rv a1, iv (0 : Int32), iv (40 : Int32), rv b403, .unset, .unset] [(.int (40 : Int32)), (.int (0 : Int32)), (.ref b403), (.int (0 : Int32)), (.ref a1)])) rfl (by rw [hml]; rfl) (argsL := [(.ref a1), (.int (0 : Int32)), (.ref b403), (.int (0 : Int32)), (.int (40 : Int32))]) (rest := []) (lenOf pd__28__5b_BI_5b_BII_29_I rfl) rfl (Nat.le_of_eq rfl) (hb hby d59_9) rfl e403 (by decide) (by decide)
  refine own_go st404 ?_
  obtain ⟨rfl, Nq404, K404, r404_0⟩ := hQ404
  have Od404 := Od403.keep K404 (allS g_b403 all0)
  have V_a1_404 := V_a1_403.keep K404 (ninS ne_a1_b403 nin0)
  have Z404 : n0 ≤ T404.heap.size := Nat.le_trans Z403 K404.1
  have Kt404 := K403.trans K404 (allS (P := fun x => x ∈ _ ∨ _ ≤ x) (Or.inr sz_b403) all0)
  have N404 := Fr.app N0 Nq404
  refine own_gk (XS.istore X404.here hx rfl (hb hby d59_12) rfl rfl) ?_
  show own_Fin _ _ _ _ (T404.setTop (mkF m 14 #[rv a1, iv (0 : Int32), iv (40 : Int32), rv b403, iv (40 : Int32), .unset] []))
  refine own_gk (XS.iload X404.here hx rfl (hb hby d59_14) rfl) ?_
  refine own_gk (XS.iloadN X404.here hx rfl (hb hby d59_16) rfl) ?_
  refine own_gk (XS.icmpYes X404.here hx rfl (pc0 := 17) (pc' := 64) rfl (hb hby d59_17) rfl (teq (by decide : (40 : Int32) = (40 : Int32))).1 (by decide) (by decide)) ?_
  refine own_gk (XS.aloadN X404.here hx rfl (hb hby d59_64) rfl rfl) ?_
  obtain ⟨fs405, hr405, hrun405, hended405, hW405, hsame405⟩ := X404.leave (v := some (.ref b403)) (fun h => by rw [hrt] at h; cases h)
  refine own_done (retOut X404 hx hrt rfl (Or.inr (Or.inr (Or.inr (Or.inr ⟨rfl, rfl, rfl⟩)))) (hb hby d59_65) hr405) hrun405 hended405 ⟨_, _, rfl, ?_, ⟨_, rfl⟩, hW405, hsame405.mono (by decide) (by decide)⟩
  show Qc3bL Z a1 k N cs h0 n0 _ T404.heap _
  exact ⟨b403, k403, rfl, N404, Kt404, g_b403, sz_b403, r404_0⟩
def Qc3bU (Z : State) (a1 : Addr) (k : ClassId) (N : Nat) (cs : Nat → Int32) (i0 : Nat) (h0 : Heap) (n0 : Nat) (v : Option Value) (h : Heap) (L : List Loc) : Prop := ∃ (b : Addr) (kb : ClassId), v = some (.ref b) ∧ Fr n0 L ∧ Keep h0 h [] ∧ n0 ≤ b ∧ h0.size ≤ b ∧ Arv Z h b kb .byte (Int32.ofNat (2 * 40)) (List.map Value.int (own_R (own_u cs) (2 * 40))) (.int (0 : Int32))
theorem d59_20 : decode jdk_52_method_17_code 20 = .ok (.aload_n 0, 1) := by decide +kernel
theorem d59_21 : decode jdk_52_method_17_code 21 = .ok (.iload_n 1, 1) := by decide +kernel
theorem d59_22 : decode jdk_52_method_17_code 22 = .ok (.iconst 1, 1) := by decide +kernel
theorem d59_23 : decode jdk_52_method_17_code 23 = .ok (.ishl, 1) := by decide +kernel
theorem d59_24 : decode jdk_52_method_17_code 24 = .ok (.iload_n 1, 1) := by decide +kernel
theorem d59_25 : decode jdk_52_method_17_code 25 = .ok (.iload_n 2, 1) := by decide +kernel
theorem d59_26 : decode jdk_52_method_17_code 26 = .ok (.iadd, 1) := by decide +kernel
theorem d59_27 : decode jdk_52_method_17_code 27 = .ok (.invokestatic 11, 3) := by decide +kernel
theorem d59_30 : decode jdk_52_method_17_code 30 = .ok (.invokestatic 126, 3) := by decide +kernel
theorem d59_33 : decode jdk_52_method_17_code 33 = .ok (.astore 5, 2) := by decide +kernel
theorem d59_35 : decode jdk_52_method_17_code 35 = .ok (.aload 5, 2) := by decide +kernel
theorem d59_37 : decode jdk_52_method_17_code 37 = .ok (.iload 4, 2) := by decide +kernel
theorem d59_39 : decode jdk_52_method_17_code 39 = .ok (.invokestatic 71, 3) := by decide +kernel
theorem d59_42 : decode jdk_52_method_17_code 42 = .ok (.sipush 255, 3) := by decide +kernel
theorem d59_45 : decode jdk_52_method_17_code 45 = .ok (.if_icmp .gt 16, 3) := by decide +kernel
theorem d59_61 : decode jdk_52_method_17_code 61 = .ok (.aload 5, 2) := by decide +kernel
theorem d59_63 : decode jdk_52_method_17_code 63 = .ok (.areturn, 1) := by decide +kernel
set_option maxRecDepth 65536 in
set_option maxHeartbeats 40000000 in
theorem rmc3bU (l : Launch) (Z : State) (a0 : Array Value) (hw : ∀ d ∈ tables_1, d.before a0 Z = true) (ws : List Jvm.Cond) (a1 : Addr) (k : ClassId) (N : Nat) (cs : Nat → Int32) (i0 : Nat) (h0 : Heap) (n0 : Nat) (Z0 : n0 ≤ h0.size) (V_a1 : Arv Z h0 a1 k .byte (Int32.ofNat (2 * N)) (List.map Value.int (own_R (own_u cs) (2 * N))) (.int (0 : Int32))) (hN : N ≤ 64) (hN4 : 40 < N) (hch : ∀ i, own_ch (cs i)) (O0 : own_Old Z n0 h0) (hST : own_ST Z) (hi0 : i0 < 40) (hbig : (255 : Int32) < cs i0) (hlt : ∀ j, j < i0 → ¬ (255 : Int32) < cs j) : own_Met l own_y59 jdk_52_method_17_code 6 (some (.array .byte)) ws ⟨4, 2, 168, 70⟩ #[(.ref a1), (.int (0 : Int32)), (.int (40 : Int32))] Z h0 (Qc3bU Z a1 k N cs i0 h0 n0) := by
  refine own_met (plainFor_of_name pn_java_lang_StringUTF16) (fun p e s m below meth c s₁ hx hby hml hrt hlk hZ hown hnm X0 e0 es0 => ?_)
  have N0 := Fr.nil n0
  rw [ef_RII_6 m a1 (0 : Int32) (40 : Int32)]
  have Kz := Keep.refl h0 []
  refine own_gk (XS.iloadN X0.here hx rfl (hb hby d59_0) rfl) ?_
  obtain ⟨T406, h406, k406, X406, e406, E406, A406, st406⟩ := newP X0 hx hZ (own_h hw 19 rfl) e0 (g := (mkF m 1 #[rv a1, iv (0 : Int32), iv (40 : Int32), .unset, .unset, .unset] [(.int (40 : Int32))])) rfl (hb hby d59_1) (n := (40 : Int32)) rfl (own_nn (a := 40) (by omega)) (cap := 40) (Nat.le_trans (Nat.le_of_eq (own_tn (a := 40) (by omega))) (by omega)) (by decide) (by decide) (by decide)
  obtain ⟨b406, g406⟩ : ∃ z, z = h0.size := ⟨_, rfl⟩
  rw [← g406] at A406 st406
  refine own_by st406 ?_
  have ne_a1_b406 : a1 ≠ b406 := Nat.ne_of_lt (Nat.lt_of_lt_of_eq V_a1.lt g406.symm)
  have Od406 := O0.ext E406
  have V_a1_406 := V_a1.ext E406
  have g_b406 : n0 ≤ b406 := Nat.le_trans Z0 (Nat.le_of_eq g406.symm)
  have sz_b406 : h0.size ≤ b406 := Nat.le_trans Kz.1 (Nat.le_of_eq g406.symm)
  have K406 := Kz.ext E406
  have Z406 : n0 ≤ h406.size := Nat.le_trans Z0 E406.1
  have V_b406 : Arv Z h406 b406 k406 .byte (40 : Int32) (List.map Value.int (own_R ((fun _ => (0 : Int32))) 40)) (.int (0 : Int32)) := (Arv.new A406 (own_nn (a := 40) (by omega))).pad (own_pad0 _)
  refine own_gk (XS.astoreN X406.here hx rfl (hb hby d59_3) rfl rfl rfl) ?_
  refine own_gk (XS.aloadN X406.here hx rfl (hb hby d59_4) rfl rfl) ?_
  refine own_gk (XS.iloadN X406.here hx rfl (hb hby d59_5) rfl) ?_
  show own_Fin _ _ _ _ (T406.setTop (mkF m 6 #[rv a1, iv (0 : Int32), iv (40 : Int32), rv b406, .unset, .unset] [(.int (0 : Int32)), (.ref a1)]))
  refine own_gk (XS.aloadN X406.here hx rfl (hb hby d59_6) rfl rfl) ?_
  refine own_gk (XS.iconst X406.here hx rfl (hb hby d59_7)) ?_
  refine own_gk (XS.iloadN X406.here hx rfl (hb hby d59_8) rfl) ?_
  obtain ⟨_, T407, Lc407, X407, hQ407, st407⟩ := own_callS X406 hx hZ hown (own_h hw 277 rfl) (own_h hw 278 rfl) (own_h hw 170 rfl) (own_h hw 279 rfl) (by decide) (rmcbU l Z a0 hw [] a1 k b406 k406 N cs i0 h406 n0 Z406 V_a1_406 V_b406 g_b406 ne_a1_b406 hN hN4 hch Od406 hST hi0 hbig hlt) (W := 0) (by decide) (by decide) (g := (mkF m 9 #[rv a1, iv (0 : Int32), iv (40 : Int32), rv b406, .unset, .unset] [(.int (40 : Int32)), (.int (0 : Int32)), (.ref b406), (.int (0 : Int32)), (.ref a1)])) rfl (by rw [hml]; rfl) (argsL := [(.ref a1), (.int (0 : Int32)), (.ref b406), (.int (0 : Int32)), (.int (40 : Int32))]) (rest := []) (lenOf pd__28__5b_BI_5b_BII_29_I rfl) rfl (Nat.le_of_eq rfl) (hb hby d59_9) rfl e406 (by decide) (by decide)
  refine own_go st407 ?_
  obtain ⟨rfl, Nq407, K407⟩ := hQ407
  have Od407 := Od406.keep K407 (allS g_b406 all0)
  have V_a1_407 := V_a1_406.keep K407 (ninS ne_a1_b406 nin0)
  have Z407 : n0 ≤ T407.heap.size := Nat.le_trans Z406 K407.1
  have Kt407 := K406.trans K407 (allS (P := fun x => x ∈ _ ∨ _ ≤ x) (Or.inr sz_b406) all0)
  have N407 := Fr.app N0 Nq407
  refine own_gk (XS.istore X407.here hx rfl (hb hby d59_12) rfl rfl) ?_
  show own_Fin _ _ _ _ (T407.setTop (mkF m 14 #[rv a1, iv (0 : Int32), iv (40 : Int32), rv b406, iv (Int32.ofNat (i0)), .unset] []))
  refine own_gk (XS.iload X407.here hx rfl (hb hby d59_14) rfl) ?_
  refine own_gk (XS.iloadN X407.here hx rfl (hb hby d59_16) rfl) ?_
  refine own_gk (XS.icmpNo X407.here hx rfl (hb hby d59_17) rfl (feq (show ¬ ((Int32.ofNat (i0)) = (40 : Int32)) from (fun q => absurd ((own_eqN (a := i0) (b := 40) (by omega) (by omega)).mp q) (by omega)))).1) ?_
  refine own_gk (XS.aloadN X407.here hx rfl (hb hby d59_20) rfl rfl) ?_
  refine own_gk (XS.iloadN X407.here hx rfl (hb hby d59_21) rfl) ?_
  show own_Fin _ _ _ _ (T407.setTop (mkF m 22 #[rv a1, iv (0 : Int32), iv (40 : Int32), rv b406, iv (Int32.ofNat (i0)), .unset] [(.int (0 : Int32)), (.ref a1)]))
  refine own_gk (XS.iconst X407.here hx rfl (hb hby d59_22)) ?_
  refine own_gk (XS.ishl X407.here hx rfl (hb hby d59_23) rfl) ?_
  refine own_gk (XS.iloadN X407.here hx rfl (hb hby d59_24) rfl) ?_
  refine own_gk (XS.iloadN X407.here hx rfl (hb hby d59_25) rfl) ?_
  refine own_gk (XS.iadd X407.here hx rfl (hb hby d59_26) rfl) ?_
  show own_Fin _ _ _ _ (T407.setTop (mkF m 27 #[rv a1, iv (0 : Int32), iv (40 : Int32), rv b406, iv (Int32.ofNat (i0)), .unset] [(.int (40 : Int32)), (.int (0 : Int32)), (.ref a1)]))
  obtain ⟨_, T408, Lc408, X408, hQ408, st408⟩ := own_callS X407 hx hZ hown (own_h hw 222 rfl) (own_h hw 223 rfl) (own_h hw 170 rfl) (own_h hw 224 rfl) (by decide) (rmnl l Z a0 hw [] 40 T407.heap n0 Z407 (by decide)) (W := 2) (by decide) (by decide) (g := (mkF m 27 #[rv a1, iv (0 : Int32), iv (40 : Int32), rv b406, iv (Int32.ofNat (i0)), .unset] [(.int (40 : Int32)), (.int (0 : Int32)), (.ref a1)])) rfl (by rw [hml]; rfl) (argsL := [(.int (40 : Int32))]) (rest := [(.int (0 : Int32)), (.ref a1)]) (lenOf pd__28_I_29_I rfl) rfl (Nat.le_of_eq rfl) (hb hby d59_27) rfl rfl (by decide) (by decide)
  obtain ⟨rfl, Nq408, e408⟩ := hQ408
  refine own_go st408 ?_
  have N408 := Fr.app N407 Nq408
  obtain ⟨_, T409, Lc409, X409, hQ409, st409⟩ := own_callS X408 hx hZ hown (own_h hw 280 rfl) (own_h hw 129 rfl) (own_h hw 130 rfl) (own_h hw 131 rfl) (by decide) (rmcor l Z a0 hw [] a1 k (2 * N) (own_u cs) (2 * 40) T407.heap n0 Z407 V_a1_407 (by omega) (by omega) (by omega)) (W := 0) (by decide) (by decide) (g := (mkF m 30 #[rv a1, iv (0 : Int32), iv (40 : Int32), rv b406, iv (Int32.ofNat (i0)), .unset] [(.int (Int32.ofNat (2 * 40))), (.int (0 : Int32)), (.ref a1)])) rfl (by rw [hml]; rfl) (argsL := [(.ref a1), (.int (0 : Int32)), (.int (Int32.ofNat (2 * 40)))]) (rest := []) (lenOf pd__28__5b_BII_29__5b_B rfl) rfl (Nat.le_of_eq rfl) (hb hby d59_30) rfl e408 (by decide) (by decide)
  refine own_go st409 ?_
  obtain ⟨b_409, kb_409, rfl, Nq409, K409, g_b_409, sb_b_409, r409_0⟩ := hQ409
  have ne_a1_b_409 : a1 ≠ b_409 := Nat.ne_of_lt (Nat.lt_of_lt_of_le V_a1_407.lt sb_b_409)
  have sz_b_409 : h0.size ≤ b_409 := Nat.le_trans Kt407.1 sb_b_409
  have Od409 := Od407.keep K409 all0
  have V_a1_409 := V_a1_407.keep K409 nin0
  have Z409 : n0 ≤ T409.heap.size := Nat.le_trans Z407 K409.1
  have Kt409 := Kt407.trans K409 all0
  have N409 := Fr.app N408 Nq409
  refine own_gk (XS.astore X409.here hx rfl (hb hby d59_33) rfl rfl rfl) ?_
  refine own_gk (XS.aload X409.here hx rfl (hb hby d59_35) rfl rfl) ?_
  refine own_gk (XS.iload X409.here hx rfl (hb hby d59_37) rfl) ?_
  show own_Fin _ _ _ _ (T409.setTop (mkF m 39 #[rv a1, iv (0 : Int32), iv (40 : Int32), rv b406, iv (Int32.ofNat (i0)), rv b_409] [(.int (Int32.ofNat (i0))), (.ref b_409)]))
  obtain ⟨_, T410, Lc410, X410, hQ410, st410⟩ := own_callS X409 hx hZ hown (own_h hw 232 rfl) (own_h hw 233 rfl) (own_h hw 170 rfl) (own_h hw 234 rfl) (by decide) (rmgc l Z a0 hw [] b_409 kb_409 ((2 * 40)) ((own_u cs)) i0 (cs i0) T409.heap n0 Z409 r409_0 Od409 hST (by omega) (by omega) (own_u0 _ _) (own_u1 _ _) (hch _)) (W := 0) (by decide) (by decide) (g := (mkF m 39 #[rv a1, iv (0 : Int32), iv (40 : Int32), rv b406, iv (Int32.ofNat (i0)), rv b_409] [(.int (Int32.ofNat (i0))), (.ref b_409)])) rfl (by rw [hml]; rfl) (argsL := [(.ref b_409), (.int (Int32.ofNat (i0)))]) (rest := []) (lenOf pd__28__5b_BI_29_C rfl) rfl (Nat.le_of_eq rfl) (hb hby d59_39) rfl rfl (by decide) (by decide)
  obtain ⟨rfl, Nq410, e410⟩ := hQ410
  refine own_go st410 ?_
  have N410 := Fr.app N409 Nq410
  refine own_gk (XS.sipush X410.here hx rfl (hb hby d59_42)) ?_
  refine own_gk (XS.icmpYes X410.here hx rfl (pc0 := 45) (pc' := 61) rfl (hb hby d59_45) rfl (tlt (show (255 : Int32) < (cs i0) from hbig)).2.2.1 (by decide) (by decide)) ?_
  refine own_gk (XS.aload X410.here hx rfl (hb hby d59_61) rfl rfl) ?_
  obtain ⟨fs411, hr411, hrun411, hended411, hW411, hsame411⟩ := X410.leave (v := some (.ref b_409)) (fun h => by rw [hrt] at h; cases h)
  refine own_done (retOut X410 hx hrt rfl (Or.inr (Or.inr (Or.inr (Or.inr ⟨rfl, rfl, rfl⟩)))) (hb hby d59_63) hr411) hrun411 hended411 ⟨_, _, rfl, ?_, ⟨_, rfl⟩, hW411, hsame411.mono (by decide) (by decide)⟩
  show Qc3bU Z a1 k N cs i0 h0 n0 _ T410.heap _
  rw [e410]
  exact ⟨b_409, kb_409, rfl, N410, Kt409, g_b_409, sz_b_409, r409_0⟩
def QnsU (Z : State) (a1 : Addr) (k : ClassId) (N : Nat) (cs : Nat → Int32) (h0 : Heap) (n0 : Nat) (v : Option Value) (h : Heap) (L : List Loc) : Prop := ∃ (r : Addr), v = some (.ref r) ∧ Fr n0 L ∧ Keep h0 h [] ∧ n0 ≤ r ∧ h0.size ≤ r ∧ own_Str Z h r 40 cs
theorem d58_0 : decode jdk_52_method_69_code 0 = .ok (.iload_n 2, 1) := by decide +kernel
theorem d58_1 : decode jdk_52_method_69_code 1 = .ok (.ifCond .ne 7, 3) := by decide +kernel
theorem d58_8 : decode jdk_52_method_69_code 8 = .ok (.getstatic 251, 3) := by decide +kernel
theorem d58_11 : decode jdk_52_method_69_code 11 = .ok (.ifCond .eq 28, 3) := by decide +kernel
theorem d58_14 : decode jdk_52_method_69_code 14 = .ok (.aload_n 0, 1) := by decide +kernel
theorem d58_15 : decode jdk_52_method_69_code 15 = .ok (.iload_n 1, 1) := by decide +kernel
theorem d58_16 : decode jdk_52_method_69_code 16 = .ok (.iload_n 2, 1) := by decide +kernel
theorem d58_17 : decode jdk_52_method_69_code 17 = .ok (.invokestatic 257, 3) := by decide +kernel
theorem d58_20 : decode jdk_52_method_69_code 20 = .ok (.astore_n 3, 1) := by decide +kernel
theorem d58_21 : decode jdk_52_method_69_code 21 = .ok (.aload_n 3, 1) := by decide +kernel
theorem d58_22 : decode jdk_52_method_69_code 22 = .ok (.iload_n 2, 1) := by decide +kernel
theorem d58_23 : decode jdk_52_method_69_code 23 = .ok (.invokestatic 259, 3) := by decide +kernel
theorem d58_26 : decode jdk_52_method_69_code 26 = .ok (.istore 4, 2) := by decide +kernel
theorem d58_28 : decode jdk_52_method_69_code 28 = .ok (.new 3, 3) := by decide +kernel
theorem d58_31 : decode jdk_52_method_69_code 31 = .ok (.dup, 1) := by decide +kernel
theorem d58_32 : decode jdk_52_method_69_code 32 = .ok (.aload_n 3, 1) := by decide +kernel
theorem d58_33 : decode jdk_52_method_69_code 33 = .ok (.iload 4, 2) := by decide +kernel
theorem d58_35 : decode jdk_52_method_69_code 35 = .ok (.invokespecial 263, 3) := by decide +kernel
theorem d58_38 : decode jdk_52_method_69_code 38 = .ok (.areturn, 1) := by decide +kernel
set_option maxRecDepth 65536 in
set_option maxHeartbeats 40000000 in
theorem rmnsU (l : Launch) (Z : State) (a0 : Array Value) (hw : ∀ d ∈ tables_1, d.before a0 Z = true) (ws : List Jvm.Cond) (a1 : Addr) (k : ClassId) (N : Nat) (cs : Nat → Int32) (h0 : Heap) (n0 : Nat) (Z0 : n0 ≤ h0.size) (V_a1 : Arv Z h0 a1 k .byte (Int32.ofNat (2 * N)) (List.map Value.int (own_R (own_u cs) (2 * N))) (.int (0 : Int32))) (hN : N ≤ 64) (hN4 : 40 < N) (hch : ∀ i, own_ch (cs i)) (O0 : own_Old Z n0 h0) (hST : own_ST Z) : own_Met l own_y58 jdk_52_method_69_code 5 (some (.object "java/lang/String")) ws ⟨5, 3, 172, 87⟩ #[(.ref a1), (.int (0 : Int32)), (.int (40 : Int32))] Z h0 (QnsU Z a1 k N cs h0 n0) := by
  refine own_met (plainFor_of_name pn_java_lang_StringUTF16) (fun p e s m below meth c s₁ hx hby hml hrt hlk hZ hown hnm X0 e0 es0 => ?_)
  have N0 := Fr.nil n0
  rw [ef_RII_5 m a1 (0 : Int32) (40 : Int32)]
  have Kz := Keep.refl h0 []
  obtain ⟨ct, sv, hct, hsv, S__assertionsDisabled, S_HI_BYTE_SHIFT, S_LO_BYTE_SHIFT, S_COMPACT_STRINGS, S_SIOOBE_FORMATTER⟩ := id hST
  rcases own_first cs 40 with hal | ⟨i0, hi0, hbig, hlt⟩
  · refine own_gk (XS.iloadN X0.here hx rfl (hb hby d58_0) rfl) ?_
    refine own_gk (XS.ifYes X0.here hx rfl (pc0 := 1) (pc' := 8) rfl (hb hby d58_1) rfl ((if0 _ _).trans (feq (by decide : ¬ ((40 : Int32) = (0 : Int32)))).2) (by decide) (by decide)) ?_
    obtain ⟨T412, X412, e412, st412⟩ := getS2 X0 hx hZ hown (host := "") (Or.inl (own_h hw 273 rfl)) Via.refl e0 (S_COMPACT_STRINGS.ext O0.2) (g := (mkF m 8 #[rv a1, iv (0 : Int32), iv (40 : Int32), .unset, .unset] [])) rfl (hb hby d58_8)
    refine own_by st412 ?_
    refine own_gk (XS.ifNo X412.here hx rfl (hb hby d58_11) rfl ((if0 _ _).trans (feq (show ¬ (ct = (0 : Int32)) from hct)).1)) ?_
    show own_Fin _ _ _ _ (T412.setTop (mkF m 14 #[rv a1, iv (0 : Int32), iv (40 : Int32), .unset, .unset] []))
    refine own_gk (XS.aloadN X412.here hx rfl (hb hby d58_14) rfl rfl) ?_
    refine own_gk (XS.iloadN X412.here hx rfl (hb hby d58_15) rfl) ?_
    refine own_gk (XS.iloadN X412.here hx rfl (hb hby d58_16) rfl) ?_
    obtain ⟨_, T413, Lc413, X413, hQ413, st413⟩ := own_callS X412 hx hZ hown (own_h hw 274 rfl) (own_h hw 275 rfl) (own_h hw 170 rfl) (own_h hw 276 rfl) (by decide) (rmc3bL l Z a0 hw [] a1 k N cs h0 n0 Z0 V_a1 hN hN4 hch O0 hST hal) (W := 0) (by decide) (by decide) (g := (mkF m 17 #[rv a1, iv (0 : Int32), iv (40 : Int32), .unset, .unset] [(.int (40 : Int32)), (.int (0 : Int32)), (.ref a1)])) rfl (by rw [hml]; rfl) (argsL := [(.ref a1), (.int (0 : Int32)), (.int (40 : Int32))]) (rest := []) (lenOf pd__28__5b_BII_29__5b_B rfl) rfl (Nat.le_of_eq rfl) (hb hby d58_17) rfl e412 (by decide) (by decide)
    refine own_go st413 ?_
    obtain ⟨b_413, kb_413, rfl, Nq413, K413, g_b_413, sb_b_413, r413_0⟩ := hQ413
    have ne_a1_b_413 : a1 ≠ b_413 := Nat.ne_of_lt (Nat.lt_of_lt_of_le V_a1.lt sb_b_413)
    have sz_b_413 : h0.size ≤ b_413 := Nat.le_trans Kz.1 sb_b_413
    have Od413 := O0.keep K413 all0
    have V_a1_413 := V_a1.keep K413 nin0
    have Z413 : n0 ≤ T413.heap.size := Nat.le_trans Z0 K413.1
    have Kt413 := Kz.trans K413 all0
    have N413 := Fr.app N0 Nq413
    refine own_gk (XS.astoreN X413.here hx rfl (hb hby d58_20) rfl rfl rfl) ?_
    show own_Fin _ _ _ _ (T413.setTop (mkF m 21 #[rv a1, iv (0 : Int32), iv (40 : Int32), rv b_413, .unset] []))
    refine own_gk (XS.aloadN X413.here hx rfl (hb hby d58_21) rfl rfl) ?_
    refine own_gk (XS.iloadN X413.here hx rfl (hb hby d58_22) rfl) ?_
    obtain ⟨_, T414, Lc414, X414, hQ414, st414⟩ := own_callS X413 hx hZ hown (own_h hw 281 rfl) (own_h hw 176 rfl) (own_h hw 170 rfl) (own_h hw 177 rfl) (by decide) (rmcfL l Z a0 hw [] b_413 kb_413 40 (own_lo cs) T413.heap n0 Z413 r413_0 (by decide)) (W := 0) (by decide) (by decide) (g := (mkF m 23 #[rv a1, iv (0 : Int32), iv (40 : Int32), rv b_413, .unset] [(.int (40 : Int32)), (.ref b_413)])) rfl (by rw [hml]; rfl) (argsL := [(.ref b_413), (.int (40 : Int32))]) (rest := []) (lenOf pd__28__5b_BI_29_B rfl) rfl (Nat.le_of_eq rfl) (hb hby d58_23) rfl rfl (by decide) (by decide)
    obtain ⟨rfl, Nq414, e414⟩ := hQ414
    refine own_go st414 ?_
    have N414 := Fr.app N413 Nq414
    refine own_gk (XS.istore X414.here hx rfl (hb hby d58_26) rfl rfl) ?_
    obtain ⟨T415, h415, X415, e415, E415, A415, D415, U415, st415⟩ := newO X414 hx hZ hown (own_h hw 282 rfl) (own_h hw 6 rfl) (own_h hw 7 rfl) e414 (g := (mkF m 28 #[rv a1, iv (0 : Int32), iv (40 : Int32), rv b_413, iv (0 : Int32)] [])) rfl (hb hby d58_28) (by decide) (by decide)
    obtain ⟨b415, g415⟩ : ∃ z, z = T413.heap.size := ⟨_, rfl⟩
    rw [← g415] at A415 D415 U415 st415
    refine own_by st415 ?_
    have ne_a1_b415 : a1 ≠ b415 := Nat.ne_of_lt (Nat.lt_of_lt_of_eq V_a1_413.lt g415.symm)
    have ne_b_413_b415 : b_413 ≠ b415 := Nat.ne_of_lt (Nat.lt_of_lt_of_eq r413_0.lt g415.symm)
    have Od415 := Od413.ext E415
    have V_a1_415 := V_a1_413.ext E415
    have r413_0_415 := r413_0.ext E415
    have g_b415 : n0 ≤ b415 := Nat.le_trans Z413 (Nat.le_of_eq g415.symm)
    have sz_b415 : h0.size ≤ b415 := Nat.le_trans Kt413.1 (Nat.le_of_eq g415.symm)
    have K415 := Kt413.ext E415
    have Z415 : n0 ≤ h415.size := Nat.le_trans Z413 E415.1
    have E_b415 := A415
    have F_value_b415 : Fld Z h415 b415 "java/lang/String" "value" "[B" .null := D415 (Or.inr (own_h hw 20 rfl)) (ty := (.array .byte)) (by decide)
    have F_coder_b415 : Fld Z h415 b415 "java/lang/String" "coder" "B" (.int (0 : Int32)) := D415 (Or.inr (own_h hw 21 rfl)) (ty := .byte) (by decide)
    show own_Fin _ _ _ _ (T415.setTop (mkF m 31 #[rv a1, iv (0 : Int32), iv (40 : Int32), rv b_413, iv (0 : Int32)] [(.ref b415)]))
    refine own_gk (XS.dup X415.here hx rfl (hb hby d58_31) rfl rfl) ?_
    refine own_gk (XS.aloadN X415.here hx rfl (hb hby d58_32) rfl rfl) ?_
    refine own_gk (XS.iload X415.here hx rfl (hb hby d58_33) rfl) ?_
    obtain ⟨_, T416, Lc416, X416, hQ416, st416⟩ := own_callI X415 hx hZ rfl hown (own_h hw 283 rfl) (own_h hw 213 rfl) (own_h hw 7 rfl) (own_h hw 214 rfl) (by decide) (rmib_0 l Z a0 hw [] b415 b_413 h415 n0 Z415 E_b415 F_value_b415 F_coder_b415 g_b415) (W := 1) (by decide) (by decide) (g := (mkF m 35 #[rv a1, iv (0 : Int32), iv (40 : Int32), rv b_413, iv (0 : Int32)] [(.int (0 : Int32)), (.ref b_413), (.ref b415), (.ref b415)])) rfl (by rw [hml]; rfl) (argsL := [(.ref b_413), (.int (0 : Int32))]) (rest := [(.ref b415)]) (lenOf pd__28__5b_BB_29_V rfl) rfl (Nat.le_of_eq rfl) (hb hby d58_35) rfl e415 (by decide) (by decide)
    refine own_go st416 ?_
    obtain ⟨rfl, Nq416, K416, r416_0, r416_1, r416_2⟩ := hQ416
    have Od416 := Od415.keep K416 (allS g_b415 all0)
    have V_a1_416 := V_a1_415.keep K416 (ninS ne_a1_b415 nin0)
    have r413_0_416 := r413_0_415.keep K416 (ninS ne_b_413_b415 nin0)
    have E_b415_416 := E_b415.keep K416
    have Z416 : n0 ≤ T416.heap.size := Nat.le_trans Z415 K416.1
    have Kt416 := K415.trans K416 (allS (P := fun x => x ∈ _ ∨ _ ≤ x) (Or.inr sz_b415) all0)
    have N416 := Fr.app N414 Nq416
    obtain ⟨fs417, hr417, hrun417, hended417, hW417, hsame417⟩ := X416.leave (v := some (.ref b415)) (fun h => by rw [hrt] at h; cases h)
    refine own_done (retOut X416 hx hrt rfl (Or.inr (Or.inr (Or.inr (Or.inr ⟨rfl, rfl, rfl⟩)))) (hb hby d58_38) hr417) hrun417 hended417 ⟨_, _, rfl, ?_, ⟨_, rfl⟩, hW417, hsame417.mono (by decide) (by decide)⟩
    show QnsU Z a1 k N cs h0 n0 _ T416.heap _
    exact ⟨b415, rfl, N416, Kt416, g_b415, sz_b415, ⟨r416_0, b_413, kb_413, r416_1, Or.inl ⟨r416_2, fun i hi => hal i (by omega), r413_0_416⟩⟩⟩
  · refine own_gk (XS.iloadN X0.here hx rfl (hb hby d58_0) rfl) ?_
    refine own_gk (XS.ifYes X0.here hx rfl (pc0 := 1) (pc' := 8) rfl (hb hby d58_1) rfl ((if0 _ _).trans (feq (by decide : ¬ ((40 : Int32) = (0 : Int32)))).2) (by decide) (by decide)) ?_
    obtain ⟨T418, X418, e418, st418⟩ := getS2 X0 hx hZ hown (host := "") (Or.inl (own_h hw 273 rfl)) Via.refl e0 (S_COMPACT_STRINGS.ext O0.2) (g := (mkF m 8 #[rv a1, iv (0 : Int32), iv (40 : Int32), .unset, .unset] [])) rfl (hb hby d58_8)
    refine own_by st418 ?_
    refine own_gk (XS.ifNo X418.here hx rfl (hb hby d58_11) rfl ((if0 _ _).trans (feq (show ¬ (ct = (0 : Int32)) from hct)).1)) ?_
    show own_Fin _ _ _ _ (T418.setTop (mkF m 14 #[rv a1, iv (0 : Int32), iv (40 : Int32), .unset, .unset] []))
    refine own_gk (XS.aloadN X418.here hx rfl (hb hby d58_14) rfl rfl) ?_
    refine own_gk (XS.iloadN X418.here hx rfl (hb hby d58_15) rfl) ?_
    refine own_gk (XS.iloadN X418.here hx rfl (hb hby d58_16) rfl) ?_
    obtain ⟨_, T419, Lc419, X419, hQ419, st419⟩ := own_callS X418 hx hZ hown (own_h hw 274 rfl) (own_h hw 275 rfl) (own_h hw 170 rfl) (own_h hw 276 rfl) (by decide) (rmc3bU l Z a0 hw [] a1 k N cs i0 h0 n0 Z0 V_a1 hN hN4 hch O0 hST hi0 hbig hlt) (W := 0) (by decide) (by decide) (g := (mkF m 17 #[rv a1, iv (0 : Int32), iv (40 : Int32), .unset, .unset] [(.int (40 : Int32)), (.int (0 : Int32)), (.ref a1)])) rfl (by rw [hml]; rfl) (argsL := [(.ref a1), (.int (0 : Int32)), (.int (40 : Int32))]) (rest := []) (lenOf pd__28__5b_BII_29__5b_B rfl) rfl (Nat.le_of_eq rfl) (hb hby d58_17) rfl e418 (by decide) (by decide)
    refine own_go st419 ?_
    obtain ⟨b_419, kb_419, rfl, Nq419, K419, g_b_419, sb_b_419, r419_0⟩ := hQ419
    have ne_a1_b_419 : a1 ≠ b_419 := Nat.ne_of_lt (Nat.lt_of_lt_of_le V_a1.lt sb_b_419)
    have sz_b_419 : h0.size ≤ b_419 := Nat.le_trans Kz.1 sb_b_419
    have Od419 := O0.keep K419 all0
    have V_a1_419 := V_a1.keep K419 nin0
    have Z419 : n0 ≤ T419.heap.size := Nat.le_trans Z0 K419.1
    have Kt419 := Kz.trans K419 all0
    have N419 := Fr.app N0 Nq419
    refine own_gk (XS.astoreN X419.here hx rfl (hb hby d58_20) rfl rfl rfl) ?_
    show own_Fin _ _ _ _ (T419.setTop (mkF m 21 #[rv a1, iv (0 : Int32), iv (40 : Int32), rv b_419, .unset] []))
    refine own_gk (XS.aloadN X419.here hx rfl (hb hby d58_21) rfl rfl) ?_
    refine own_gk (XS.iloadN X419.here hx rfl (hb hby d58_22) rfl) ?_
    obtain ⟨_, T420, Lc420, X420, hQ420, st420⟩ := own_callS X419 hx hZ hown (own_h hw 281 rfl) (own_h hw 176 rfl) (own_h hw 170 rfl) (own_h hw 177 rfl) (by decide) (rmcfU l Z a0 hw [] b_419 kb_419 40 (own_u cs) T419.heap n0 Z419 r419_0 (by decide) (by decide)) (W := 0) (by decide) (by decide) (g := (mkF m 23 #[rv a1, iv (0 : Int32), iv (40 : Int32), rv b_419, .unset] [(.int (40 : Int32)), (.ref b_419)])) rfl (by rw [hml]; rfl) (argsL := [(.ref b_419), (.int (40 : Int32))]) (rest := []) (lenOf pd__28__5b_BI_29_B rfl) rfl (Nat.le_of_eq rfl) (hb hby d58_23) rfl rfl (by decide) (by decide)
    obtain ⟨rfl, Nq420, e420⟩ := hQ420
    refine own_go st420 ?_
    have N420 := Fr.app N419 Nq420
    refine own_gk (XS.istore X420.here hx rfl (hb hby d58_26) rfl rfl) ?_
    obtain ⟨T421, h421, X421, e421, E421, A421, D421, U421, st421⟩ := newO X420 hx hZ hown (own_h hw 282 rfl) (own_h hw 6 rfl) (own_h hw 7 rfl) e420 (g := (mkF m 28 #[rv a1, iv (0 : Int32), iv (40 : Int32), rv b_419, iv (1 : Int32)] [])) rfl (hb hby d58_28) (by decide) (by decide)
    obtain ⟨b421, g421⟩ : ∃ z, z = T419.heap.size := ⟨_, rfl⟩
    rw [← g421] at A421 D421 U421 st421
    refine own_by st421 ?_
    have ne_a1_b421 : a1 ≠ b421 := Nat.ne_of_lt (Nat.lt_of_lt_of_eq V_a1_419.lt g421.symm)
    have ne_b_419_b421 : b_419 ≠ b421 := Nat.ne_of_lt (Nat.lt_of_lt_of_eq r419_0.lt g421.symm)
    have Od421 := Od419.ext E421
    have V_a1_421 := V_a1_419.ext E421
    have r419_0_421 := r419_0.ext E421
    have g_b421 : n0 ≤ b421 := Nat.le_trans Z419 (Nat.le_of_eq g421.symm)
    have sz_b421 : h0.size ≤ b421 := Nat.le_trans Kt419.1 (Nat.le_of_eq g421.symm)
    have K421 := Kt419.ext E421
    have Z421 : n0 ≤ h421.size := Nat.le_trans Z419 E421.1
    have E_b421 := A421
    have F_value_b421 : Fld Z h421 b421 "java/lang/String" "value" "[B" .null := D421 (Or.inr (own_h hw 20 rfl)) (ty := (.array .byte)) (by decide)
    have F_coder_b421 : Fld Z h421 b421 "java/lang/String" "coder" "B" (.int (0 : Int32)) := D421 (Or.inr (own_h hw 21 rfl)) (ty := .byte) (by decide)
    show own_Fin _ _ _ _ (T421.setTop (mkF m 31 #[rv a1, iv (0 : Int32), iv (40 : Int32), rv b_419, iv (1 : Int32)] [(.ref b421)]))
    refine own_gk (XS.dup X421.here hx rfl (hb hby d58_31) rfl rfl) ?_
    refine own_gk (XS.aloadN X421.here hx rfl (hb hby d58_32) rfl rfl) ?_
    refine own_gk (XS.iload X421.here hx rfl (hb hby d58_33) rfl) ?_
    obtain ⟨_, T422, Lc422, X422, hQ422, st422⟩ := own_callI X421 hx hZ rfl hown (own_h hw 283 rfl) (own_h hw 213 rfl) (own_h hw 7 rfl) (own_h hw 214 rfl) (by decide) (rmib_1 l Z a0 hw [] b421 b_419 h421 n0 Z421 E_b421 F_value_b421 F_coder_b421 g_b421) (W := 1) (by decide) (by decide) (g := (mkF m 35 #[rv a1, iv (0 : Int32), iv (40 : Int32), rv b_419, iv (1 : Int32)] [(.int (1 : Int32)), (.ref b_419), (.ref b421), (.ref b421)])) rfl (by rw [hml]; rfl) (argsL := [(.ref b_419), (.int (1 : Int32))]) (rest := [(.ref b421)]) (lenOf pd__28__5b_BB_29_V rfl) rfl (Nat.le_of_eq rfl) (hb hby d58_35) rfl e421 (by decide) (by decide)
    refine own_go st422 ?_
    obtain ⟨rfl, Nq422, K422, r422_0, r422_1, r422_2⟩ := hQ422
    have Od422 := Od421.keep K422 (allS g_b421 all0)
    have V_a1_422 := V_a1_421.keep K422 (ninS ne_a1_b421 nin0)
    have r419_0_422 := r419_0_421.keep K422 (ninS ne_b_419_b421 nin0)
    have E_b421_422 := E_b421.keep K422
    have Z422 : n0 ≤ T422.heap.size := Nat.le_trans Z421 K422.1
    have Kt422 := K421.trans K422 (allS (P := fun x => x ∈ _ ∨ _ ≤ x) (Or.inr sz_b421) all0)
    have N422 := Fr.app N420 Nq422
    obtain ⟨fs423, hr423, hrun423, hended423, hW423, hsame423⟩ := X422.leave (v := some (.ref b421)) (fun h => by rw [hrt] at h; cases h)
    refine own_done (retOut X422 hx hrt rfl (Or.inr (Or.inr (Or.inr (Or.inr ⟨rfl, rfl, rfl⟩)))) (hb hby d58_38) hr423) hrun423 hended423 ⟨_, _, rfl, ?_, ⟨_, rfl⟩, hW423, hsame423.mono (by decide) (by decide)⟩
    show QnsU Z a1 k N cs h0 n0 _ T422.heap _
    exact ⟨b421, rfl, N422, Kt422, g_b421, sz_b421, ⟨r422_0, b_419, kb_419, r422_1, Or.inr ⟨r422_2, r419_0_422⟩⟩⟩
def Qpft (Z : State) (N : Nat) (a4 : Addr) (h0 : Heap) (n0 : Nat) (v : Option Value) (h : Heap) (L : List Loc) : Prop := v = some (.int (0 : Int32)) ∧ Fr n0 L ∧ h = h0
theorem d41_0 : decode jdk_41_method_12_code 0 = .ok (.iload_n 0, 1) := by decide +kernel
theorem d41_1 : decode jdk_41_method_12_code 1 = .ok (.ifCond .lt 13, 3) := by decide +kernel
theorem d41_4 : decode jdk_41_method_12_code 4 = .ok (.iload_n 0, 1) := by decide +kernel
theorem d41_5 : decode jdk_41_method_12_code 5 = .ok (.iload_n 1, 1) := by decide +kernel
theorem d41_6 : decode jdk_41_method_12_code 6 = .ok (.if_icmp .gt 8, 3) := by decide +kernel
theorem d41_9 : decode jdk_41_method_12_code 9 = .ok (.iload_n 1, 1) := by decide +kernel
theorem d41_10 : decode jdk_41_method_12_code 10 = .ok (.iload_n 2, 1) := by decide +kernel
theorem d41_11 : decode jdk_41_method_12_code 11 = .ok (.if_icmp .le 11, 3) := by decide +kernel
theorem d41_22 : decode jdk_41_method_12_code 22 = .ok (.iload_n 0, 1) := by decide +kernel
theorem d41_23 : decode jdk_41_method_12_code 23 = .ok (.ireturn, 1) := by decide +kernel
set_option maxRecDepth 65536 in
set_option maxHeartbeats 40000000 in
theorem rmpft (l : Launch) (Z : State) (a0 : Array Value) (hw : ∀ d ∈ tables_1, d.before a0 Z = true) (ws : List Jvm.Cond) (N : Nat) (a4 : Addr) (h0 : Heap) (n0 : Nat) (Z0 : n0 ≤ h0.size) (hN : N ≤ 64) (hN4 : 40 < N) : own_Met l own_y41 jdk_41_method_12_code 4 (some .int) ws ⟨0, 0, 0, 0⟩ #[(.int (0 : Int32)), (.int (40 : Int32)), (.int (Int32.ofNat (N))), (.ref a4)] Z h0 (Qpft Z N a4 h0 n0) := by
  refine own_met (plainFor_of_name pn_jdk_internal_util_Preconditions) (fun p e s m below meth c s₁ hx hby hml hrt hlk hZ hown hnm X0 e0 es0 => ?_)
  have N0 := Fr.nil n0
  rw [ef_IIIR_4 m (0 : Int32) (40 : Int32) (Int32.ofNat (N)) a4]
  refine own_gk (XS.iloadN X0.here hx rfl (hb hby d41_0) rfl) ?_
  refine own_gk (XS.ifNo X0.here hx rfl (hb hby d41_1) rfl ((if0 _ _).trans (flt (by decide : ¬ ((0 : Int32) < (0 : Int32)))).1)) ?_
  refine own_gk (XS.iloadN X0.here hx rfl (hb hby d41_4) rfl) ?_
  refine own_gk (XS.iloadN X0.here hx rfl (hb hby d41_5) rfl) ?_
  refine own_gk (XS.icmpNo X0.here hx rfl (hb hby d41_6) rfl (flt (by decide : ¬ ((40 : Int32) < (0 : Int32)))).2.2.1) ?_
  show own_Fin _ _ _ _ (s₁.setTop (mkF m 9 #[iv (0 : Int32), iv (40 : Int32), iv (Int32.ofNat (N)), rv a4] []))
  refine own_gk (XS.iloadN X0.here hx rfl (hb hby d41_9) rfl) ?_
  refine own_gk (XS.iloadN X0.here hx rfl (hb hby d41_10) rfl) ?_
  refine own_gk (XS.icmpYes X0.here hx rfl (pc0 := 11) (pc' := 22) rfl (hb hby d41_11) rfl (flt (show ¬ ((Int32.ofNat (N)) < (40 : Int32)) from (fun q => absurd ((own_ltN (a := N) (b := 40) (by omega) (by omega)).mp q) (by omega)))).2.2.2 (by decide) (by decide)) ?_
  refine own_gk (XS.iloadN X0.here hx rfl (hb hby d41_22) rfl) ?_
  obtain ⟨fs424, hr424, hrun424, hended424, hW424, hsame424⟩ := X0.leave (v := some (.int (0 : Int32))) (fun h => by rw [hrt] at h; cases h)
  refine own_done (own_retI X0 hx hrt (hb hby d41_23) hr424) hrun424 hended424 ⟨_, _, rfl, ?_, ⟨_, rfl⟩, hW424, hsame424.mono (by decide) (by decide)⟩
  show Qpft Z N a4 h0 n0 _ s₁.heap _
  rw [e0]
  exact ⟨rfl, N0, rfl⟩
def Qptn (Z : State) (N : Nat) (h0 : Heap) (n0 : Nat) (v : Option Value) (h : Heap) (L : List Loc) : Prop := v = some (.int (0 : Int32)) ∧ Fr n0 L ∧ h = h0
set_option maxRecDepth 65536 in
set_option maxHeartbeats 40000000 in
theorem rmptn (l : Launch) (Z : State) (a0 : Array Value) (hw : ∀ d ∈ tables_1, d.before a0 Z = true) (ws : List Jvm.Cond) (N : Nat) (h0 : Heap) (n0 : Nat) (Z0 : n0 ≤ h0.size) (hN : N ≤ 64) (hN4 : 40 < N) : own_Met l own_y41 jdk_41_method_12_code 4 (some .int) ws ⟨0, 0, 0, 0⟩ #[(.int (0 : Int32)), (.int (40 : Int32)), (.int (Int32.ofNat (N))), .null] Z h0 (Qptn Z N h0 n0) := by
  refine own_met (plainFor_of_name pn_jdk_internal_util_Preconditions) (fun p e s m below meth c s₁ hx hby hml hrt hlk hZ hown hnm X0 e0 es0 => ?_)
  have N0 := Fr.nil n0
  rw [ef_III0_4 m (0 : Int32) (40 : Int32) (Int32.ofNat (N))]
  refine own_gk (XS.iloadN X0.here hx rfl (hb hby d41_0) rfl) ?_
  refine own_gk (XS.ifNo X0.here hx rfl (hb hby d41_1) rfl ((if0 _ _).trans (flt (by decide : ¬ ((0 : Int32) < (0 : Int32)))).1)) ?_
  refine own_gk (XS.iloadN X0.here hx rfl (hb hby d41_4) rfl) ?_
  refine own_gk (XS.iloadN X0.here hx rfl (hb hby d41_5) rfl) ?_
  refine own_gk (XS.icmpNo X0.here hx rfl (hb hby d41_6) rfl (flt (by decide : ¬ ((40 : Int32) < (0 : Int32)))).2.2.1) ?_
  show own_Fin _ _ _ _ (s₁.setTop (mkF m 9 #[iv (0 : Int32), iv (40 : Int32), iv (Int32.ofNat (N)), .val .null] []))
  refine own_gk (XS.iloadN X0.here hx rfl (hb hby d41_9) rfl) ?_
  refine own_gk (XS.iloadN X0.here hx rfl (hb hby d41_10) rfl) ?_
  refine own_gk (XS.icmpYes X0.here hx rfl (pc0 := 11) (pc' := 22) rfl (hb hby d41_11) rfl (flt (show ¬ ((Int32.ofNat (N)) < (40 : Int32)) from (fun q => absurd ((own_ltN (a := N) (b := 40) (by omega) (by omega)).mp q) (by omega)))).2.2.2 (by decide) (by decide)) ?_
  refine own_gk (XS.iloadN X0.here hx rfl (hb hby d41_22) rfl) ?_
  obtain ⟨fs425, hr425, hrun425, hended425, hW425, hsame425⟩ := X0.leave (v := some (.int (0 : Int32))) (fun h => by rw [hrt] at h; cases h)
  refine own_done (own_retI X0 hx hrt (hb hby d41_23) hr425) hrun425 hended425 ⟨_, _, rfl, ?_, ⟨_, rfl⟩, hW425, hsame425.mono (by decide) (by decide)⟩
  show Qptn Z N h0 n0 _ s₁.heap _
  rw [e0]
  exact ⟨rfl, N0, rfl⟩
def Qbbe (Z : State) (N : Nat) (h0 : Heap) (n0 : Nat) (v : Option Value) (h : Heap) (L : List Loc) : Prop := v = none ∧ Fr n0 L ∧ h = h0
theorem d40_0 : decode jdk_42_method_158_code 0 = .ok (.iload_n 0, 1) := by decide +kernel
theorem d40_1 : decode jdk_42_method_158_code 1 = .ok (.iload_n 1, 1) := by decide +kernel
theorem d40_2 : decode jdk_42_method_158_code 2 = .ok (.iload_n 2, 1) := by decide +kernel
theorem d40_3 : decode jdk_42_method_158_code 3 = .ok (.getstatic 1053, 3) := by decide +kernel
theorem d40_6 : decode jdk_42_method_158_code 6 = .ok (.invokestatic 1062, 3) := by decide +kernel
theorem d40_9 : decode jdk_42_method_158_code 9 = .ok (.pop, 1) := by decide +kernel
theorem d40_10 : decode jdk_42_method_158_code 10 = .ok (.return_, 1) := by decide +kernel
set_option maxRecDepth 65536 in
set_option maxHeartbeats 40000000 in
theorem rmbbe (l : Launch) (Z : State) (a0 : Array Value) (hw : ∀ d ∈ tables_1, d.before a0 Z = true) (ws : List Jvm.Cond) (N : Nat) (h0 : Heap) (n0 : Nat) (Z0 : n0 ≤ h0.size) (hN : N ≤ 64) (hN4 : 40 < N) (O0 : own_Old Z n0 h0) (hST : own_ST Z) : own_Met l own_y40 jdk_42_method_158_code 3 none ws ⟨1, 0, 0, 15⟩ #[(.int (0 : Int32)), (.int (40 : Int32)), (.int (Int32.ofNat (N)))] Z h0 (Qbbe Z N h0 n0) := by
  refine own_met (plainFor_of_name pn_java_lang_String) (fun p e s m below meth c s₁ hx hby hml hrt hlk hZ hown hnm X0 e0 es0 => ?_)
  have N0 := Fr.nil n0
  rw [ef_III_3 m (0 : Int32) (40 : Int32) (Int32.ofNat (N))]
  obtain ⟨ct, sv, hct, hsv, S__assertionsDisabled, S_HI_BYTE_SHIFT, S_LO_BYTE_SHIFT, S_COMPACT_STRINGS, S_SIOOBE_FORMATTER⟩ := id hST
  rcases hsv with rfl | ⟨sf, rfl⟩
  · refine own_gk (XS.iloadN X0.here hx rfl (hb hby d40_0) rfl) ?_
    refine own_gk (XS.iloadN X0.here hx rfl (hb hby d40_1) rfl) ?_
    refine own_gk (XS.iloadN X0.here hx rfl (hb hby d40_2) rfl) ?_
    obtain ⟨T426, X426, e426, st426⟩ := getS2 X0 hx hZ hown (host := "") (Or.inl (own_h hw 162 rfl)) Via.refl e0 (S_SIOOBE_FORMATTER.ext O0.2) (g := (mkF m 3 #[iv (0 : Int32), iv (40 : Int32), iv (Int32.ofNat (N))] [(.int (Int32.ofNat (N))), (.int (40 : Int32)), (.int (0 : Int32))])) rfl (hb hby d40_3)
    refine own_by st426 ?_
    show own_Fin _ _ _ _ (T426.setTop (mkF m 6 #[iv (0 : Int32), iv (40 : Int32), iv (Int32.ofNat (N))] [.null, (.int (Int32.ofNat (N))), (.int (40 : Int32)), (.int (0 : Int32))]))
    obtain ⟨_, T427, Lc427, X427, hQ427, st427⟩ := own_callS X426 hx hZ hown (own_h hw 204 rfl) (own_h hw 205 rfl) (own_h hw 163 rfl) (own_h hw 206 rfl) (by decide) (rmptn l Z a0 hw [] N h0 n0 Z0 hN hN4) (W := 0) (by decide) (by decide) (g := (mkF m 6 #[iv (0 : Int32), iv (40 : Int32), iv (Int32.ofNat (N))] [.null, (.int (Int32.ofNat (N))), (.int (40 : Int32)), (.int (0 : Int32))])) rfl (by rw [hml]; rfl) (argsL := [(.int (0 : Int32)), (.int (40 : Int32)), (.int (Int32.ofNat (N))), .null]) (rest := []) (lenOf pd__28_IIILjava_2f_util_2f_function_2f_BiFunction_3b__29_I rfl) rfl (Nat.le_of_eq rfl) (hb hby d40_6) rfl e426 (by decide) (by decide)
    obtain ⟨rfl, Nq427, e427⟩ := hQ427
    refine own_go st427 ?_
    have N427 := Fr.app N0 Nq427
    refine own_gk (XS.pop X427.here hx rfl (hb hby d40_9) rfl rfl) ?_
    obtain ⟨fs428, hr428, hrun428, hended428, hW428, hsame428⟩ := X427.leave (v := none) (fun _ => rfl)
    refine own_done (X427.returnOut hx hrt (hb hby d40_10) hr428) hrun428 hended428 ⟨_, _, rfl, ?_, ⟨_, rfl⟩, hW428, hsame428.mono (by decide) (by decide)⟩
    show Qbbe Z N h0 n0 _ T427.heap _
    rw [e427]
    exact ⟨rfl, N427, rfl⟩
  · refine own_gk (XS.iloadN X0.here hx rfl (hb hby d40_0) rfl) ?_
    refine own_gk (XS.iloadN X0.here hx rfl (hb hby d40_1) rfl) ?_
    refine own_gk (XS.iloadN X0.here hx rfl (hb hby d40_2) rfl) ?_
    obtain ⟨T429, X429, e429, st429⟩ := getS2 X0 hx hZ hown (host := "") (Or.inl (own_h hw 162 rfl)) Via.refl e0 (S_SIOOBE_FORMATTER.ext O0.2) (g := (mkF m 3 #[iv (0 : Int32), iv (40 : Int32), iv (Int32.ofNat (N))] [(.int (Int32.ofNat (N))), (.int (40 : Int32)), (.int (0 : Int32))])) rfl (hb hby d40_3)
    refine own_by st429 ?_
    show own_Fin _ _ _ _ (T429.setTop (mkF m 6 #[iv (0 : Int32), iv (40 : Int32), iv (Int32.ofNat (N))] [(.ref sf), (.int (Int32.ofNat (N))), (.int (40 : Int32)), (.int (0 : Int32))]))
    obtain ⟨_, T430, Lc430, X430, hQ430, st430⟩ := own_callS X429 hx hZ hown (own_h hw 204 rfl) (own_h hw 205 rfl) (own_h hw 163 rfl) (own_h hw 206 rfl) (by decide) (rmpft l Z a0 hw [] N sf h0 n0 Z0 hN hN4) (W := 0) (by decide) (by decide) (g := (mkF m 6 #[iv (0 : Int32), iv (40 : Int32), iv (Int32.ofNat (N))] [(.ref sf), (.int (Int32.ofNat (N))), (.int (40 : Int32)), (.int (0 : Int32))])) rfl (by rw [hml]; rfl) (argsL := [(.int (0 : Int32)), (.int (40 : Int32)), (.int (Int32.ofNat (N))), (.ref sf)]) (rest := []) (lenOf pd__28_IIILjava_2f_util_2f_function_2f_BiFunction_3b__29_I rfl) rfl (Nat.le_of_eq rfl) (hb hby d40_6) rfl e429 (by decide) (by decide)
    obtain ⟨rfl, Nq430, e430⟩ := hQ430
    refine own_go st430 ?_
    have N430 := Fr.app N0 Nq430
    refine own_gk (XS.pop X430.here hx rfl (hb hby d40_9) rfl rfl) ?_
    obtain ⟨fs431, hr431, hrun431, hended431, hW431, hsame431⟩ := X430.leave (v := none) (fun _ => rfl)
    refine own_done (X430.returnOut hx hrt (hb hby d40_10) hr431) hrun431 hended431 ⟨_, _, rfl, ?_, ⟨_, rfl⟩, hW431, hsame431.mono (by decide) (by decide)⟩
    show Qbbe Z N h0 n0 _ T430.heap _
    rw [e430]
    exact ⟨rfl, N430, rfl⟩
def Qsub (Z : State) (a1 : Addr) (N : Nat) (cs : Nat → Int32) (h0 : Heap) (n0 : Nat) (v : Option Value) (h : Heap) (L : List Loc) : Prop := ∃ (r : Addr), v = some (.ref r) ∧ Fr n0 L ∧ Keep h0 h [] ∧ n0 ≤ r ∧ h0.size ≤ r ∧ own_Str Z h r 40 cs
theorem d39_0 : decode jdk_42_method_92_code 0 = .ok (.aload_n 0, 1) := by decide +kernel
theorem d39_1 : decode jdk_42_method_92_code 1 = .ok (.invokevirtual 505, 3) := by decide +kernel
theorem d39_4 : decode jdk_42_method_92_code 4 = .ok (.istore_n 3, 1) := by decide +kernel
theorem d39_5 : decode jdk_42_method_92_code 5 = .ok (.iload_n 1, 1) := by decide +kernel
theorem d39_6 : decode jdk_42_method_92_code 6 = .ok (.iload_n 2, 1) := by decide +kernel
theorem d39_7 : decode jdk_42_method_92_code 7 = .ok (.iload_n 3, 1) := by decide +kernel
theorem d39_8 : decode jdk_42_method_92_code 8 = .ok (.invokestatic 521, 3) := by decide +kernel
theorem pd__28_III_29_V : parseMethodDescriptor "(III)V" = some ⟨[.int, .int, .int], none⟩ := by decide +kernel
theorem d39_11 : decode jdk_42_method_92_code 11 = .ok (.iload_n 1, 1) := by decide +kernel
theorem d39_12 : decode jdk_42_method_92_code 12 = .ok (.ifCond .ne 10, 3) := by decide +kernel
theorem d39_15 : decode jdk_42_method_92_code 15 = .ok (.iload_n 2, 1) := by decide +kernel
theorem d39_16 : decode jdk_42_method_92_code 16 = .ok (.iload_n 3, 1) := by decide +kernel
theorem d39_17 : decode jdk_42_method_92_code 17 = .ok (.if_icmp .ne 5, 3) := by decide +kernel
theorem d39_22 : decode jdk_42_method_92_code 22 = .ok (.iload_n 2, 1) := by decide +kernel
theorem d39_23 : decode jdk_42_method_92_code 23 = .ok (.iload_n 1, 1) := by decide +kernel
theorem d39_24 : decode jdk_42_method_92_code 24 = .ok (.isub, 1) := by decide +kernel
theorem d39_25 : decode jdk_42_method_92_code 25 = .ok (.istore 4, 2) := by decide +kernel
theorem d39_27 : decode jdk_42_method_92_code 27 = .ok (.aload_n 0, 1) := by decide +kernel
theorem d39_28 : decode jdk_42_method_92_code 28 = .ok (.invokevirtual 492, 3) := by decide +kernel
theorem d39_31 : decode jdk_42_method_92_code 31 = .ok (.ifCond .eq 16, 3) := by decide +kernel
theorem d39_34 : decode jdk_42_method_92_code 34 = .ok (.aload_n 0, 1) := by decide +kernel
theorem d39_35 : decode jdk_42_method_92_code 35 = .ok (.getfield 9, 3) := by decide +kernel
theorem d39_38 : decode jdk_42_method_92_code 38 = .ok (.iload_n 1, 1) := by decide +kernel
theorem d39_39 : decode jdk_42_method_92_code 39 = .ok (.iload 4, 2) := by decide +kernel
theorem d39_41 : decode jdk_42_method_92_code 41 = .ok (.invokestatic 685, 3) := by decide +kernel
theorem pd__28__5b_BII_29_Ljava_2f_lang_2f_String_3b_ : parseMethodDescriptor "([BII)Ljava/lang/String;" = some ⟨[(.array .byte), .int, .int], some (.object "java/lang/String")⟩ := by decide +kernel
theorem d39_44 : decode jdk_42_method_92_code 44 = .ok (.goto 13, 3) := by decide +kernel
theorem d39_57 : decode jdk_42_method_92_code 57 = .ok (.areturn, 1) := by decide +kernel
theorem d39_47 : decode jdk_42_method_92_code 47 = .ok (.aload_n 0, 1) := by decide +kernel
theorem d39_48 : decode jdk_42_method_92_code 48 = .ok (.getfield 9, 3) := by decide +kernel
theorem d39_51 : decode jdk_42_method_92_code 51 = .ok (.iload_n 1, 1) := by decide +kernel
theorem d39_52 : decode jdk_42_method_92_code 52 = .ok (.iload 4, 2) := by decide +kernel
theorem d39_54 : decode jdk_42_method_92_code 54 = .ok (.invokestatic 689, 3) := by decide +kernel
set_option maxRecDepth 65536 in
set_option maxHeartbeats 40000000 in
theorem rmsub (l : Launch) (Z : State) (a0 : Array Value) (hw : ∀ d ∈ tables_1, d.before a0 Z = true) (ws : List Jvm.Cond) (a1 : Addr) (N : Nat) (cs : Nat → Int32) (h0 : Heap) (n0 : Nat) (Z0 : n0 ≤ h0.size) (hS : own_Str Z h0 a1 N cs) (hN : N ≤ 64) (hN4 : 40 < N) (hch : ∀ i, own_ch (cs i)) (O0 : own_Old Z n0 h0) (hST : own_ST Z) : own_Met l own_y39 jdk_42_method_92_code 5 (some (.object "java/lang/String")) ws ⟨6, 3, 172, 103⟩ #[(.ref a1), (.int (0 : Int32)), (.int (40 : Int32))] Z h0 (Qsub Z a1 N cs h0 n0) := by
  refine own_met (plainFor_of_name pn_java_lang_String) (fun p e s m below meth c s₁ hx hby hml hrt hlk hZ hown hnm X0 e0 es0 => ?_)
  have N0 := Fr.nil n0
  rw [ef_RII_5 m a1 (0 : Int32) (40 : Int32)]
  have Kz := Keep.refl h0 []
  obtain ⟨E_a1, v_, kq, Fv_, ⟨FcL, hal, VqL⟩ | ⟨FcU, VqU⟩⟩ := id hS
  · refine own_gk (XS.aloadN X0.here hx rfl (hb hby d39_0) rfl rfl) ?_
    obtain ⟨_, T432, Lc432, X432, hQ432, st432⟩ := own_callV X0 hx hZ E_a1 hown (own_h hw 200 rfl) (own_h hw 31 rfl) (notFace_of_selects (args := #[]) (mvT hZ (own_h hw 33 rfl))) (own_h hw 33 rfl) (own_h hw 32 rfl) (own_h hw 7 rfl) (own_h hw 34 rfl) (by decide) (rmlen l Z a0 hw [] a1 N cs h0 n0 Z0 hS O0 hST hN) (W := 0) (by decide) (by decide) (g := (mkF m 1 #[rv a1, iv (0 : Int32), iv (40 : Int32), .unset, .unset] [(.ref a1)])) rfl (by rw [hml]; rfl) (argsL := []) (rest := []) (lenOf pd__28__29_I rfl) rfl (Nat.le_of_eq rfl) (hb hby d39_1) rfl e0 (by decide) (by decide)
    obtain ⟨rfl, Nq432, e432⟩ := hQ432
    refine own_go st432 ?_
    have N432 := Fr.app N0 Nq432
    refine own_gk (XS.istoreN X432.here hx rfl (hb hby d39_4) rfl rfl) ?_
    refine own_gk (XS.iloadN X432.here hx rfl (hb hby d39_5) rfl) ?_
    show own_Fin _ _ _ _ (T432.setTop (mkF m 6 #[rv a1, iv (0 : Int32), iv (40 : Int32), iv (Int32.ofNat (N)), .unset] [(.int (0 : Int32))]))
    refine own_gk (XS.iloadN X432.here hx rfl (hb hby d39_6) rfl) ?_
    refine own_gk (XS.iloadN X432.here hx rfl (hb hby d39_7) rfl) ?_
    obtain ⟨_, T433, Lc433, X433, hQ433, st433⟩ := own_callS X432 hx hZ hown (own_h hw 201 rfl) (own_h hw 202 rfl) (own_h hw 7 rfl) (own_h hw 203 rfl) (by decide) (rmbbe l Z a0 hw [] N h0 n0 Z0 hN hN4 O0 hST) (W := 0) (by decide) (by decide) (g := (mkF m 8 #[rv a1, iv (0 : Int32), iv (40 : Int32), iv (Int32.ofNat (N)), .unset] [(.int (Int32.ofNat (N))), (.int (40 : Int32)), (.int (0 : Int32))])) rfl (by rw [hml]; rfl) (argsL := [(.int (0 : Int32)), (.int (40 : Int32)), (.int (Int32.ofNat (N)))]) (rest := []) (lenOf pd__28_III_29_V rfl) rfl (Nat.le_of_eq rfl) (hb hby d39_8) rfl e432 (by decide) (by decide)
    obtain ⟨rfl, Nq433, e433⟩ := hQ433
    refine own_go st433 ?_
    have N433 := Fr.app N432 Nq433
    refine own_gk (XS.iloadN X433.here hx rfl (hb hby d39_11) rfl) ?_
    refine own_gk (XS.ifNo X433.here hx rfl (hb hby d39_12) rfl ((if0 _ _).trans (teq (by decide : (0 : Int32) = (0 : Int32))).2)) ?_
    show own_Fin _ _ _ _ (T433.setTop (mkF m 15 #[rv a1, iv (0 : Int32), iv (40 : Int32), iv (Int32.ofNat (N)), .unset] []))
    refine own_gk (XS.iloadN X433.here hx rfl (hb hby d39_15) rfl) ?_
    refine own_gk (XS.iloadN X433.here hx rfl (hb hby d39_16) rfl) ?_
    refine own_gk (XS.icmpYes X433.here hx rfl (pc0 := 17) (pc' := 22) rfl (hb hby d39_17) rfl (feq (show ¬ ((40 : Int32) = (Int32.ofNat (N))) from (fun q => absurd ((own_eqN (a := 40) (b := N) (by omega) (by omega)).mp q) (by omega)))).2 (by decide) (by decide)) ?_
    refine own_gk (XS.iloadN X433.here hx rfl (hb hby d39_22) rfl) ?_
    refine own_gk (XS.iloadN X433.here hx rfl (hb hby d39_23) rfl) ?_
    show own_Fin _ _ _ _ (T433.setTop (mkF m 24 #[rv a1, iv (0 : Int32), iv (40 : Int32), iv (Int32.ofNat (N)), .unset] [(.int (0 : Int32)), (.int (40 : Int32))]))
    refine own_gk (XS.isub X433.here hx rfl (hb hby d39_24) rfl) ?_
    refine own_gk (XS.istore X433.here hx rfl (hb hby d39_25) rfl rfl) ?_
    refine own_gk (XS.aloadN X433.here hx rfl (hb hby d39_27) rfl rfl) ?_
    obtain ⟨_, T434, Lc434, X434, hQ434, st434⟩ := own_callV X433 hx hZ E_a1 hown (own_h hw 150 rfl) (own_h hw 151 rfl) (notFace_of_selects (args := #[]) (mvT hZ (own_h hw 153 rfl))) (own_h hw 153 rfl) (own_h hw 152 rfl) (own_h hw 7 rfl) (own_h hw 154 rfl) (by decide) (rmil_0 l Z a0 hw [] a1 h0 n0 Z0 FcL O0 hST) (W := 0) (by decide) (by decide) (g := (mkF m 28 #[rv a1, iv (0 : Int32), iv (40 : Int32), iv (Int32.ofNat (N)), iv (40 : Int32)] [(.ref a1)])) rfl (by rw [hml]; rfl) (argsL := []) (rest := []) (lenOf pd__28__29_Z rfl) rfl (Nat.le_of_eq rfl) (hb hby d39_28) rfl e433 (by decide) (by decide)
    obtain ⟨rfl, Nq434, e434⟩ := hQ434
    refine own_go st434 ?_
    have N434 := Fr.app N433 Nq434
    refine own_gk (XS.ifNo X434.here hx rfl (hb hby d39_31) rfl ((if0 _ _).trans (feq (by decide : ¬ ((1 : Int32) = (0 : Int32)))).1)) ?_
    show own_Fin _ _ _ _ (T434.setTop (mkF m 34 #[rv a1, iv (0 : Int32), iv (40 : Int32), iv (Int32.ofNat (N)), iv (40 : Int32)] []))
    refine own_gk (XS.aloadN X434.here hx rfl (hb hby d39_34) rfl rfl) ?_
    obtain ⟨T435, X435, e435, st435⟩ := getF X434 hx hZ hown (host := "") (Or.inl (own_h hw 24 rfl)) Via.refl e434 Fv_ (g := (mkF m 35 #[rv a1, iv (0 : Int32), iv (40 : Int32), iv (Int32.ofNat (N)), iv (40 : Int32)] [(.ref a1)])) rfl rfl (hb hby d39_35)
    refine own_by st435 ?_
    refine own_gk (XS.iloadN X435.here hx rfl (hb hby d39_38) rfl) ?_
    refine own_gk (XS.iload X435.here hx rfl (hb hby d39_39) rfl) ?_
    obtain ⟨_, T436, Lc436, X436, hQ436, st436⟩ := own_callS X435 hx hZ hown (own_h hw 207 rfl) (own_h hw 208 rfl) (own_h hw 157 rfl) (own_h hw 209 rfl) (by decide) (rmnsL l Z a0 hw [] v_ kq N cs h0 n0 Z0 VqL hN hN4 hal) (W := 0) (by decide) (by decide) (g := (mkF m 41 #[rv a1, iv (0 : Int32), iv (40 : Int32), iv (Int32.ofNat (N)), iv (40 : Int32)] [(.int (40 : Int32)), (.int (0 : Int32)), (.ref v_)])) rfl (by rw [hml]; rfl) (argsL := [(.ref v_), (.int (0 : Int32)), (.int (40 : Int32))]) (rest := []) (lenOf pd__28__5b_BII_29_Ljava_2f_lang_2f_String_3b_ rfl) rfl (Nat.le_of_eq rfl) (hb hby d39_41) rfl e435 (by decide) (by decide)
    refine own_go st436 ?_
    obtain ⟨r_436, rfl, Nq436, K436, g_r_436, sb_r_436, r436_0⟩ := hQ436
    have ne_a1_r_436 : a1 ≠ r_436 := Nat.ne_of_lt (Nat.lt_of_lt_of_le E_a1.lt sb_r_436)
    have ne_v__r_436 : v_ ≠ r_436 := Nat.ne_of_lt (Nat.lt_of_lt_of_le VqL.lt sb_r_436)
    have sz_r_436 : h0.size ≤ r_436 := Nat.le_trans Kz.1 sb_r_436
    have Od436 := O0.keep K436 all0
    have E_a1_436 := E_a1.keep K436
    have Fv__436 := Fv_.keep K436 nin0
    have FcL_436 := FcL.keep K436 nin0
    have VqL_436 := VqL.keep K436 nin0
    have Z436 : n0 ≤ T436.heap.size := Nat.le_trans Z0 K436.1
    have Kt436 := Kz.trans K436 all0
    have N436 := Fr.app N434 Nq436
    show own_Fin _ _ _ _ (T436.setTop (mkF m 44 #[rv a1, iv (0 : Int32), iv (40 : Int32), iv (Int32.ofNat (N)), iv (40 : Int32)] [(.ref r_436)]))
    refine own_gk (XS.goto X436.here hx rfl (pc0 := 44) (pc' := 57) rfl (hb hby d39_44) (by decide) (by decide)) ?_
    obtain ⟨fs437, hr437, hrun437, hended437, hW437, hsame437⟩ := X436.leave (v := some (.ref r_436)) (fun h => by rw [hrt] at h; cases h)
    refine own_done (retOut X436 hx hrt rfl (Or.inr (Or.inr (Or.inr (Or.inr ⟨rfl, rfl, rfl⟩)))) (hb hby d39_57) hr437) hrun437 hended437 ⟨_, _, rfl, ?_, ⟨_, rfl⟩, hW437, hsame437.mono (by decide) (by decide)⟩
    show Qsub Z a1 N cs h0 n0 _ T436.heap _
    exact ⟨r_436, rfl, N436, Kt436, g_r_436, sz_r_436, r436_0⟩
  · refine own_gk (XS.aloadN X0.here hx rfl (hb hby d39_0) rfl rfl) ?_
    obtain ⟨_, T438, Lc438, X438, hQ438, st438⟩ := own_callV X0 hx hZ E_a1 hown (own_h hw 200 rfl) (own_h hw 31 rfl) (notFace_of_selects (args := #[]) (mvT hZ (own_h hw 33 rfl))) (own_h hw 33 rfl) (own_h hw 32 rfl) (own_h hw 7 rfl) (own_h hw 34 rfl) (by decide) (rmlen l Z a0 hw [] a1 N cs h0 n0 Z0 hS O0 hST hN) (W := 0) (by decide) (by decide) (g := (mkF m 1 #[rv a1, iv (0 : Int32), iv (40 : Int32), .unset, .unset] [(.ref a1)])) rfl (by rw [hml]; rfl) (argsL := []) (rest := []) (lenOf pd__28__29_I rfl) rfl (Nat.le_of_eq rfl) (hb hby d39_1) rfl e0 (by decide) (by decide)
    obtain ⟨rfl, Nq438, e438⟩ := hQ438
    refine own_go st438 ?_
    have N438 := Fr.app N0 Nq438
    refine own_gk (XS.istoreN X438.here hx rfl (hb hby d39_4) rfl rfl) ?_
    refine own_gk (XS.iloadN X438.here hx rfl (hb hby d39_5) rfl) ?_
    show own_Fin _ _ _ _ (T438.setTop (mkF m 6 #[rv a1, iv (0 : Int32), iv (40 : Int32), iv (Int32.ofNat (N)), .unset] [(.int (0 : Int32))]))
    refine own_gk (XS.iloadN X438.here hx rfl (hb hby d39_6) rfl) ?_
    refine own_gk (XS.iloadN X438.here hx rfl (hb hby d39_7) rfl) ?_
    obtain ⟨_, T439, Lc439, X439, hQ439, st439⟩ := own_callS X438 hx hZ hown (own_h hw 201 rfl) (own_h hw 202 rfl) (own_h hw 7 rfl) (own_h hw 203 rfl) (by decide) (rmbbe l Z a0 hw [] N h0 n0 Z0 hN hN4 O0 hST) (W := 0) (by decide) (by decide) (g := (mkF m 8 #[rv a1, iv (0 : Int32), iv (40 : Int32), iv (Int32.ofNat (N)), .unset] [(.int (Int32.ofNat (N))), (.int (40 : Int32)), (.int (0 : Int32))])) rfl (by rw [hml]; rfl) (argsL := [(.int (0 : Int32)), (.int (40 : Int32)), (.int (Int32.ofNat (N)))]) (rest := []) (lenOf pd__28_III_29_V rfl) rfl (Nat.le_of_eq rfl) (hb hby d39_8) rfl e438 (by decide) (by decide)
    obtain ⟨rfl, Nq439, e439⟩ := hQ439
    refine own_go st439 ?_
    have N439 := Fr.app N438 Nq439
    refine own_gk (XS.iloadN X439.here hx rfl (hb hby d39_11) rfl) ?_
    refine own_gk (XS.ifNo X439.here hx rfl (hb hby d39_12) rfl ((if0 _ _).trans (teq (by decide : (0 : Int32) = (0 : Int32))).2)) ?_
    show own_Fin _ _ _ _ (T439.setTop (mkF m 15 #[rv a1, iv (0 : Int32), iv (40 : Int32), iv (Int32.ofNat (N)), .unset] []))
    refine own_gk (XS.iloadN X439.here hx rfl (hb hby d39_15) rfl) ?_
    refine own_gk (XS.iloadN X439.here hx rfl (hb hby d39_16) rfl) ?_
    refine own_gk (XS.icmpYes X439.here hx rfl (pc0 := 17) (pc' := 22) rfl (hb hby d39_17) rfl (feq (show ¬ ((40 : Int32) = (Int32.ofNat (N))) from (fun q => absurd ((own_eqN (a := 40) (b := N) (by omega) (by omega)).mp q) (by omega)))).2 (by decide) (by decide)) ?_
    refine own_gk (XS.iloadN X439.here hx rfl (hb hby d39_22) rfl) ?_
    refine own_gk (XS.iloadN X439.here hx rfl (hb hby d39_23) rfl) ?_
    show own_Fin _ _ _ _ (T439.setTop (mkF m 24 #[rv a1, iv (0 : Int32), iv (40 : Int32), iv (Int32.ofNat (N)), .unset] [(.int (0 : Int32)), (.int (40 : Int32))]))
    refine own_gk (XS.isub X439.here hx rfl (hb hby d39_24) rfl) ?_
    refine own_gk (XS.istore X439.here hx rfl (hb hby d39_25) rfl rfl) ?_
    refine own_gk (XS.aloadN X439.here hx rfl (hb hby d39_27) rfl rfl) ?_
    obtain ⟨_, T440, Lc440, X440, hQ440, st440⟩ := own_callV X439 hx hZ E_a1 hown (own_h hw 150 rfl) (own_h hw 151 rfl) (notFace_of_selects (args := #[]) (mvT hZ (own_h hw 153 rfl))) (own_h hw 153 rfl) (own_h hw 152 rfl) (own_h hw 7 rfl) (own_h hw 154 rfl) (by decide) (rmil_1 l Z a0 hw [] a1 h0 n0 Z0 FcU O0 hST) (W := 0) (by decide) (by decide) (g := (mkF m 28 #[rv a1, iv (0 : Int32), iv (40 : Int32), iv (Int32.ofNat (N)), iv (40 : Int32)] [(.ref a1)])) rfl (by rw [hml]; rfl) (argsL := []) (rest := []) (lenOf pd__28__29_Z rfl) rfl (Nat.le_of_eq rfl) (hb hby d39_28) rfl e439 (by decide) (by decide)
    obtain ⟨rfl, Nq440, e440⟩ := hQ440
    refine own_go st440 ?_
    have N440 := Fr.app N439 Nq440
    refine own_gk (XS.ifYes X440.here hx rfl (pc0 := 31) (pc' := 47) rfl (hb hby d39_31) rfl ((if0 _ _).trans (teq (by decide : (0 : Int32) = (0 : Int32))).1) (by decide) (by decide)) ?_
    show own_Fin _ _ _ _ (T440.setTop (mkF m 47 #[rv a1, iv (0 : Int32), iv (40 : Int32), iv (Int32.ofNat (N)), iv (40 : Int32)] []))
    refine own_gk (XS.aloadN X440.here hx rfl (hb hby d39_47) rfl rfl) ?_
    obtain ⟨T441, X441, e441, st441⟩ := getF X440 hx hZ hown (host := "") (Or.inl (own_h hw 24 rfl)) Via.refl e440 Fv_ (g := (mkF m 48 #[rv a1, iv (0 : Int32), iv (40 : Int32), iv (Int32.ofNat (N)), iv (40 : Int32)] [(.ref a1)])) rfl rfl (hb hby d39_48)
    refine own_by st441 ?_
    refine own_gk (XS.iloadN X441.here hx rfl (hb hby d39_51) rfl) ?_
    refine own_gk (XS.iload X441.here hx rfl (hb hby d39_52) rfl) ?_
    obtain ⟨_, T442, Lc442, X442, hQ442, st442⟩ := own_callS X441 hx hZ hown (own_h hw 270 rfl) (own_h hw 271 rfl) (own_h hw 170 rfl) (own_h hw 272 rfl) (by decide) (rmnsU l Z a0 hw [] v_ kq N cs h0 n0 Z0 VqU hN hN4 hch O0 hST) (W := 0) (by decide) (by decide) (g := (mkF m 54 #[rv a1, iv (0 : Int32), iv (40 : Int32), iv (Int32.ofNat (N)), iv (40 : Int32)] [(.int (40 : Int32)), (.int (0 : Int32)), (.ref v_)])) rfl (by rw [hml]; rfl) (argsL := [(.ref v_), (.int (0 : Int32)), (.int (40 : Int32))]) (rest := []) (lenOf pd__28__5b_BII_29_Ljava_2f_lang_2f_String_3b_ rfl) rfl (Nat.le_of_eq rfl) (hb hby d39_54) rfl e441 (by decide) (by decide)
    refine own_go st442 ?_
    obtain ⟨r_442, rfl, Nq442, K442, g_r_442, sb_r_442, r442_0⟩ := hQ442
    have ne_a1_r_442 : a1 ≠ r_442 := Nat.ne_of_lt (Nat.lt_of_lt_of_le E_a1.lt sb_r_442)
    have ne_v__r_442 : v_ ≠ r_442 := Nat.ne_of_lt (Nat.lt_of_lt_of_le VqU.lt sb_r_442)
    have sz_r_442 : h0.size ≤ r_442 := Nat.le_trans Kz.1 sb_r_442
    have Od442 := O0.keep K442 all0
    have E_a1_442 := E_a1.keep K442
    have Fv__442 := Fv_.keep K442 nin0
    have FcU_442 := FcU.keep K442 nin0
    have VqU_442 := VqU.keep K442 nin0
    have Z442 : n0 ≤ T442.heap.size := Nat.le_trans Z0 K442.1
    have Kt442 := Kz.trans K442 all0
    have N442 := Fr.app N440 Nq442
    show own_Fin _ _ _ _ (T442.setTop (mkF m 57 #[rv a1, iv (0 : Int32), iv (40 : Int32), iv (Int32.ofNat (N)), iv (40 : Int32)] [(.ref r_442)]))
    obtain ⟨fs443, hr443, hrun443, hended443, hW443, hsame443⟩ := X442.leave (v := some (.ref r_442)) (fun h => by rw [hrt] at h; cases h)
    refine own_done (retOut X442 hx hrt rfl (Or.inr (Or.inr (Or.inr (Or.inr ⟨rfl, rfl, rfl⟩)))) (hb hby d39_57) hr443) hrun443 hended443 ⟨_, _, rfl, ?_, ⟨_, rfl⟩, hW443, hsame443.mono (by decide) (by decide)⟩
    show Qsub Z a1 N cs h0 n0 _ T442.heap _
    exact ⟨r_442, rfl, N442, Kt442, g_r_442, sz_r_442, r442_0⟩
def own_qs : Nat → Int32 := fun _ => (39 : Int32)
def own_dots : Nat → Int32 := fun i => if i = 3 then (39 : Int32) else (46 : Int32)
def own_q1 (N : Nat) (cs : Nat → Int32) : Nat → Int32 := own_app (own_app (own_app own_qs 0 own_qs) 1 cs) (1 + N) own_qs
def own_q2 (cs : Nat → Int32) : Nat → Int32 := own_app (own_app (own_app own_qs 0 own_qs) 1 cs) (1 + 40) own_dots
theorem own_chapp {cs ds : Nat → Int32} {n : Nat} (h1 : ∀ i, own_ch (cs i)) (h2 : ∀ i, own_ch (ds i)) : ∀ i, own_ch (own_app cs n ds i) := fun i => by unfold own_app; split; exact h1 i; exact h2 _
theorem own_clapp {cs ds : Nat → Int32} {n k : Nat} (h1 : ∀ i, i < n → ¬ (255 : Int32) < cs i) (h2 : ∀ i, i < k → ¬ (255 : Int32) < ds i) : ∀ i, i < n + k → ¬ (255 : Int32) < own_app cs n ds i := fun i hi => by
  unfold own_app; split
  · exact h1 i (by omega)
  · exact h2 _ (by omega)
theorem own_qsc : ∀ i, own_ch (own_qs i) := fun _ => ⟨0, 39, rfl⟩
theorem own_qsl (k : Nat) : ∀ i, i < k → ¬ (255 : Int32) < own_qs i := fun _ _ => by unfold own_qs; decide
theorem own_dtc : ∀ i, own_ch (own_dots i) := fun i => by
  unfold own_dots; split
  · exact ⟨0, 39, rfl⟩
  · exact ⟨0, 46, rfl⟩
theorem own_dtl (k : Nat) : ∀ i, i < k → ¬ (255 : Int32) < own_dots i := fun i _ => by unfold own_dots; split <;> decide
theorem own_ch0 : ∀ i : Nat, own_ch ((fun _ => (0 : Int32)) i) := fun _ => ⟨0, 0, rfl⟩
theorem own_chup {f : Nat → Int32} {k : Nat} {z : Int32} (h : ∀ i, own_ch (f i)) (hz : own_ch z) : ∀ i, own_ch (own_up f k z i) := fun i => by
  unfold own_up; split
  · exact hz
  · exact h i
theorem own_q1c {N : Nat} {cs : Nat → Int32} (h : ∀ i, own_ch (cs i)) : ∀ i, own_ch (own_q1 N cs i) := own_chapp (own_chapp (own_chapp own_qsc own_qsc) h) own_qsc
theorem own_q2c {cs : Nat → Int32} (h : ∀ i, own_ch (cs i)) : ∀ i, own_ch (own_q2 cs i) := own_chapp (own_chapp (own_chapp own_qsc own_qsc) h) own_dtc
theorem own_q1_0 (N : Nat) (cs : Nat → Int32) : own_q1 N cs 0 = (39 : Int32) := by
  unfold own_q1 own_app; rw [if_pos (by omega)]; rfl
theorem own_q1_l (N : Nat) (cs : Nat → Int32) : own_q1 N cs (N + 2 - 1) = (39 : Int32) := by
  unfold own_q1 own_app; rw [if_neg (by omega)]; rfl
theorem own_q1_k {N k : Nat} (cs : Nat → Int32) (h : k < N) : own_q1 N cs (k + 1) = cs k := by
  unfold own_q1 own_app; rw [if_pos (by omega), if_neg (by omega)]; rfl
theorem own_q2_k {k : Nat} (cs : Nat → Int32) (h : k < 40) : own_q2 cs (k + 1) = cs k := by
  unfold own_q2 own_app; rw [if_pos (by omega), if_neg (by omega)]; rfl
theorem own_q2_0 (cs : Nat → Int32) : own_q2 cs 0 = (39 : Int32) := rfl
theorem own_q2_44 (cs : Nat → Int32) : own_q2 cs 44 = (39 : Int32) := rfl
theorem own_q2_41 (cs : Nat → Int32) : own_q2 cs 41 = (46 : Int32) := rfl
theorem own_q2_42 (cs : Nat → Int32) : own_q2 cs 42 = (46 : Int32) := rfl
theorem own_q2_43 (cs : Nat → Int32) : own_q2 cs 43 = (46 : Int32) := rfl
theorem own_cq1 {N : Nat} (h : N ≤ 40) : 1 + N ≤ own_cap 16 (1 + N) ∧ 16 ≤ own_cap 16 (1 + N) ∧ own_cap 16 (1 + N) ≤ 64 := by unfold own_cap; split <;> omega
theorem own_cq2 {N : Nat} (h : N ≤ 2 ∨ N = 39 ∨ N = 40) : own_cap (own_cap 16 (1 + N)) (1 + N + 1) ≤ 128 ∧ 1 + N + 1 < own_cap (own_cap 16 (1 + N)) (1 + N + 1) := by
  rcases h with h | rfl | rfl
  · have e : own_cap 16 (1 + N) = 16 := own_capN (by omega)
    rw [e, own_capN (by omega)]; omega
  · decide
  · decide
theorem own_Str.keep0 {Z : State} {h h' : Heap} {r : Addr} {n : Nat} {cs : Nat → Int32} (S : own_Str Z h r n cs) (K : Keep h h' []) : own_Str Z h' r n cs := by
  obtain ⟨e, v, k, f1, q⟩ := S
  refine ⟨e.keep K, v, k, f1.keep K nin0, ?_⟩
  rcases q with ⟨q1, q2, q3⟩ | ⟨q1, q2⟩
  · exact Or.inl ⟨q1.keep K nin0, q2, q3.keep K nin0⟩
  · exact Or.inr ⟨q1.keep K nin0, q2.keep K nin0⟩
theorem own_szb {va vb : Addr} {k k0 : Nat} (h : vb = va ∨ k ≤ vb) (h1 : k0 ≤ va) (h2 : k0 ≤ k) : k0 ≤ vb := by
  rcases h with rfl | h
  · exact h1
  · exact Nat.le_trans h2 h
theorem own_frm {a b : Nat} {L : List Loc} (h : a ≤ b) (N : Fr b L) : Fr a L := fun y q => Nat.le_trans h (N y q)
theorem pn_com_example_pricefence_pricefence_io_InputExceptionQuotePinLaw : plainName "com/example/pricefence/pricefence/io/InputExceptionQuotePinLaw" = true := by first | (simp [plainName, overriddenIn]; done) | decide +kernel
theorem ef_I_2 (m : MethodId) (x0 : Int32) : entryFrame m #[(.int x0)] 2 = mkF m 0 #[.val (.int x0), .unset] [] := by first | (simp [entryFrame, mkF, argsToLocals, Value.category]; done) | rfl
def Qmake (Z : State) (p1 : Int32) (h0 : Heap) (n0 : Nat) (v : Option Value) (h : Heap) (L : List Loc) : Prop := ∃ (b : Addr) (kb : ClassId) (N : Nat), v = some (.ref b) ∧ Fr n0 L ∧ Keep h0 h [] ∧ n0 ≤ b ∧ h0.size ≤ b ∧ Arv Z h b kb .char (Int32.ofNat (N)) (List.map Value.int (own_R ((fun _ => (0 : Int32))) N)) (.int (0 : Int32)) ∧ (N ≤ 2 ∨ N = 39 ∨ N = 40 ∨ N = 41 ∨ N = 42 ∨ N = 57)
theorem d1_0 : decode method_2_code 0 = .ok (.iload_n 0, 1) := by decide +kernel
theorem d1_1 : decode method_2_code 1 = .ok (.bipush 7, 2) := by decide +kernel
theorem d1_3 : decode method_2_code 3 = .ok (.iand, 1) := by decide +kernel
theorem d1_4 : decode method_2_code 4 = .ok (.istore_n 1, 1) := by decide +kernel
theorem d1_5 : decode method_2_code 5 = .ok (.iload_n 1, 1) := by decide +kernel
theorem d1_6 : decode method_2_code 6 = .ok (.ifCond .ne 7, 3) := by decide +kernel
theorem d1_9 : decode method_2_code 9 = .ok (.iconst 0, 1) := by decide +kernel
theorem d1_10 : decode method_2_code 10 = .ok (.newarray .char, 2) := by decide +kernel
theorem d1_12 : decode method_2_code 12 = .ok (.areturn, 1) := by decide +kernel
theorem d1_13 : decode method_2_code 13 = .ok (.iload_n 1, 1) := by decide +kernel
theorem d1_14 : decode method_2_code 14 = .ok (.iconst 1, 1) := by decide +kernel
theorem d1_15 : decode method_2_code 15 = .ok (.if_icmp .ne 7, 3) := by decide +kernel
theorem d1_18 : decode method_2_code 18 = .ok (.iconst 1, 1) := by decide +kernel
theorem d1_19 : decode method_2_code 19 = .ok (.newarray .char, 2) := by decide +kernel
theorem d1_21 : decode method_2_code 21 = .ok (.areturn, 1) := by decide +kernel
theorem d1_22 : decode method_2_code 22 = .ok (.iload_n 1, 1) := by decide +kernel
theorem d1_23 : decode method_2_code 23 = .ok (.iconst 2, 1) := by decide +kernel
theorem d1_24 : decode method_2_code 24 = .ok (.if_icmp .ne 7, 3) := by decide +kernel
theorem d1_27 : decode method_2_code 27 = .ok (.iconst 2, 1) := by decide +kernel
theorem d1_28 : decode method_2_code 28 = .ok (.newarray .char, 2) := by decide +kernel
theorem d1_30 : decode method_2_code 30 = .ok (.areturn, 1) := by decide +kernel
theorem d1_31 : decode method_2_code 31 = .ok (.iload_n 1, 1) := by decide +kernel
theorem d1_32 : decode method_2_code 32 = .ok (.iconst 3, 1) := by decide +kernel
theorem d1_33 : decode method_2_code 33 = .ok (.if_icmp .ne 8, 3) := by decide +kernel
theorem d1_36 : decode method_2_code 36 = .ok (.bipush 39, 2) := by decide +kernel
theorem d1_38 : decode method_2_code 38 = .ok (.newarray .char, 2) := by decide +kernel
theorem d1_40 : decode method_2_code 40 = .ok (.areturn, 1) := by decide +kernel
theorem d1_41 : decode method_2_code 41 = .ok (.iload_n 1, 1) := by decide +kernel
theorem d1_42 : decode method_2_code 42 = .ok (.iconst 4, 1) := by decide +kernel
theorem d1_43 : decode method_2_code 43 = .ok (.if_icmp .ne 8, 3) := by decide +kernel
theorem d1_46 : decode method_2_code 46 = .ok (.bipush 40, 2) := by decide +kernel
theorem d1_48 : decode method_2_code 48 = .ok (.newarray .char, 2) := by decide +kernel
theorem d1_50 : decode method_2_code 50 = .ok (.areturn, 1) := by decide +kernel
theorem d1_51 : decode method_2_code 51 = .ok (.iload_n 1, 1) := by decide +kernel
theorem d1_52 : decode method_2_code 52 = .ok (.iconst 5, 1) := by decide +kernel
theorem d1_53 : decode method_2_code 53 = .ok (.if_icmp .ne 8, 3) := by decide +kernel
theorem d1_56 : decode method_2_code 56 = .ok (.bipush 41, 2) := by decide +kernel
theorem d1_58 : decode method_2_code 58 = .ok (.newarray .char, 2) := by decide +kernel
theorem d1_60 : decode method_2_code 60 = .ok (.areturn, 1) := by decide +kernel
theorem d1_61 : decode method_2_code 61 = .ok (.iload_n 1, 1) := by decide +kernel
theorem d1_62 : decode method_2_code 62 = .ok (.bipush 6, 2) := by decide +kernel
theorem d1_64 : decode method_2_code 64 = .ok (.if_icmp .ne 8, 3) := by decide +kernel
theorem d1_67 : decode method_2_code 67 = .ok (.bipush 42, 2) := by decide +kernel
theorem d1_69 : decode method_2_code 69 = .ok (.newarray .char, 2) := by decide +kernel
theorem d1_71 : decode method_2_code 71 = .ok (.areturn, 1) := by decide +kernel
theorem d1_72 : decode method_2_code 72 = .ok (.bipush 57, 2) := by decide +kernel
theorem d1_74 : decode method_2_code 74 = .ok (.newarray .char, 2) := by decide +kernel
theorem d1_76 : decode method_2_code 76 = .ok (.areturn, 1) := by decide +kernel
set_option maxRecDepth 65536 in
set_option maxHeartbeats 40000000 in
theorem rmmake (l : Launch) (Z : State) (a0 : Array Value) (hw : ∀ d ∈ tables_1, d.before a0 Z = true) (ws : List Jvm.Cond) (p1 : Int32) (h0 : Heap) (n0 : Nat) (Z0 : n0 ≤ h0.size)  : own_Met l own_y1 method_2_code 2 (some (.array .char)) ws ⟨0, 1, 57, 0⟩ #[(.int p1)] Z h0 (Qmake Z p1 h0 n0) := by
  refine own_met (plainFor_of_name pn_com_example_pricefence_pricefence_io_InputExceptionQuotePinLaw) (fun p e s m below meth c s₁ hx hby hml hrt hlk hZ hown hnm X0 e0 es0 => ?_)
  have N0 := Fr.nil n0
  rw [ef_I_2 m p1]
  have Kz := Keep.refl h0 []
  refine own_gk (XS.iloadN X0.here hx rfl (hb hby d1_0) rfl) ?_
  refine own_gk (XS.bipush X0.here hx rfl (hb hby d1_1)) ?_
  refine own_gk (XS.iand X0.here hx rfl (hb hby d1_3) rfl) ?_
  refine own_gk (XS.istoreN X0.here hx rfl (hb hby d1_4) rfl rfl) ?_
  refine own_gk (XS.iloadN X0.here hx rfl (hb hby d1_5) rfl) ?_
  show own_Fin _ _ _ _ (s₁.setTop (mkF m 6 #[iv p1, iv (p1 &&& (7 : Int32))] [(.int (p1 &&& (7 : Int32)))]))
  by_cases c6_444 : (p1 &&& (7 : Int32)) = (0 : Int32)
  · refine own_gk (XS.ifNo X0.here hx rfl (hb hby d1_6) rfl ((if0 _ _).trans (teq c6_444).2)) ?_
    refine own_gk (XS.iconst X0.here hx rfl (hb hby d1_9)) ?_
    obtain ⟨T445, h445, k445, X445, e445, E445, A445, st445⟩ := newP X0 hx hZ (own_h hw 4 rfl) e0 (g := (mkF m 10 #[iv p1, iv (p1 &&& (7 : Int32))] [(.int (0 : Int32))])) rfl (hb hby d1_10) (n := (0 : Int32)) rfl (own_nn (a := 0) (by omega)) (cap := 57) (Nat.le_trans (Nat.le_of_eq (own_tn (a := 0) (by omega))) (by omega)) (by decide) (by decide) (by decide)
    obtain ⟨b445, g445⟩ : ∃ z, z = h0.size := ⟨_, rfl⟩
    rw [← g445] at A445 st445
    refine own_by st445 ?_
    have g_b445 : n0 ≤ b445 := Nat.le_trans Z0 (Nat.le_of_eq g445.symm)
    have sz_b445 : h0.size ≤ b445 := Nat.le_trans Kz.1 (Nat.le_of_eq g445.symm)
    have K445 := Kz.ext E445
    have Z445 : n0 ≤ h445.size := Nat.le_trans Z0 E445.1
    have V_b445 : Arv Z h445 b445 k445 .char (0 : Int32) (List.map Value.int (own_R ((fun _ => (0 : Int32))) 0)) (.int (0 : Int32)) := (Arv.new A445 (own_nn (a := 0) (by omega))).pad (own_pad0 _)
    obtain ⟨fs446, hr446, hrun446, hended446, hW446, hsame446⟩ := X445.leave (v := some (.ref b445)) (fun h => by rw [hrt] at h; cases h)
    refine own_done (retOut X445 hx hrt rfl (Or.inr (Or.inr (Or.inr (Or.inr ⟨rfl, rfl, rfl⟩)))) (hb hby d1_12) hr446) hrun446 hended446 ⟨_, _, rfl, ?_, ⟨_, rfl⟩, hW446, hsame446.mono (by decide) (by decide)⟩
    show Qmake Z p1 h0 n0 _ T445.heap _
    rw [e445]
    exact ⟨b445, k445, 0, rfl, N0, K445, g_b445, sz_b445, V_b445, (by omega)⟩
  · refine own_gk (XS.ifYes X0.here hx rfl (pc0 := 6) (pc' := 13) rfl (hb hby d1_6) rfl ((if0 _ _).trans (feq c6_444).2) (by decide) (by decide)) ?_
    refine own_gk (XS.iloadN X0.here hx rfl (hb hby d1_13) rfl) ?_
    refine own_gk (XS.iconst X0.here hx rfl (hb hby d1_14)) ?_
    by_cases c15_447 : (p1 &&& (7 : Int32)) = (1 : Int32)
    · refine own_gk (XS.icmpNo X0.here hx rfl (hb hby d1_15) rfl (teq c15_447).2) ?_
      refine own_gk (XS.iconst X0.here hx rfl (hb hby d1_18)) ?_
      show own_Fin _ _ _ _ (s₁.setTop (mkF m 19 #[iv p1, iv (p1 &&& (7 : Int32))] [(.int (1 : Int32))]))
      obtain ⟨T448, h448, k448, X448, e448, E448, A448, st448⟩ := newP X0 hx hZ (own_h hw 4 rfl) e0 (g := (mkF m 19 #[iv p1, iv (p1 &&& (7 : Int32))] [(.int (1 : Int32))])) rfl (hb hby d1_19) (n := (1 : Int32)) rfl (own_nn (a := 1) (by omega)) (cap := 57) (Nat.le_trans (Nat.le_of_eq (own_tn (a := 1) (by omega))) (by omega)) (by decide) (by decide) (by decide)
      obtain ⟨b448, g448⟩ : ∃ z, z = h0.size := ⟨_, rfl⟩
      rw [← g448] at A448 st448
      refine own_by st448 ?_
      have g_b448 : n0 ≤ b448 := Nat.le_trans Z0 (Nat.le_of_eq g448.symm)
      have sz_b448 : h0.size ≤ b448 := Nat.le_trans Kz.1 (Nat.le_of_eq g448.symm)
      have K448 := Kz.ext E448
      have Z448 : n0 ≤ h448.size := Nat.le_trans Z0 E448.1
      have V_b448 : Arv Z h448 b448 k448 .char (1 : Int32) (List.map Value.int (own_R ((fun _ => (0 : Int32))) 1)) (.int (0 : Int32)) := (Arv.new A448 (own_nn (a := 1) (by omega))).pad (own_pad0 _)
      obtain ⟨fs449, hr449, hrun449, hended449, hW449, hsame449⟩ := X448.leave (v := some (.ref b448)) (fun h => by rw [hrt] at h; cases h)
      refine own_done (retOut X448 hx hrt rfl (Or.inr (Or.inr (Or.inr (Or.inr ⟨rfl, rfl, rfl⟩)))) (hb hby d1_21) hr449) hrun449 hended449 ⟨_, _, rfl, ?_, ⟨_, rfl⟩, hW449, hsame449.mono (by decide) (by decide)⟩
      show Qmake Z p1 h0 n0 _ T448.heap _
      rw [e448]
      exact ⟨b448, k448, 1, rfl, N0, K448, g_b448, sz_b448, V_b448, (by omega)⟩
    · refine own_gk (XS.icmpYes X0.here hx rfl (pc0 := 15) (pc' := 22) rfl (hb hby d1_15) rfl (feq c15_447).2 (by decide) (by decide)) ?_
      refine own_gk (XS.iloadN X0.here hx rfl (hb hby d1_22) rfl) ?_
      show own_Fin _ _ _ _ (s₁.setTop (mkF m 23 #[iv p1, iv (p1 &&& (7 : Int32))] [(.int (p1 &&& (7 : Int32)))]))
      refine own_gk (XS.iconst X0.here hx rfl (hb hby d1_23)) ?_
      by_cases c24_450 : (p1 &&& (7 : Int32)) = (2 : Int32)
      · refine own_gk (XS.icmpNo X0.here hx rfl (hb hby d1_24) rfl (teq c24_450).2) ?_
        refine own_gk (XS.iconst X0.here hx rfl (hb hby d1_27)) ?_
        obtain ⟨T451, h451, k451, X451, e451, E451, A451, st451⟩ := newP X0 hx hZ (own_h hw 4 rfl) e0 (g := (mkF m 28 #[iv p1, iv (p1 &&& (7 : Int32))] [(.int (2 : Int32))])) rfl (hb hby d1_28) (n := (2 : Int32)) rfl (own_nn (a := 2) (by omega)) (cap := 57) (Nat.le_trans (Nat.le_of_eq (own_tn (a := 2) (by omega))) (by omega)) (by decide) (by decide) (by decide)
        obtain ⟨b451, g451⟩ : ∃ z, z = h0.size := ⟨_, rfl⟩
        rw [← g451] at A451 st451
        refine own_by st451 ?_
        have g_b451 : n0 ≤ b451 := Nat.le_trans Z0 (Nat.le_of_eq g451.symm)
        have sz_b451 : h0.size ≤ b451 := Nat.le_trans Kz.1 (Nat.le_of_eq g451.symm)
        have K451 := Kz.ext E451
        have Z451 : n0 ≤ h451.size := Nat.le_trans Z0 E451.1
        have V_b451 : Arv Z h451 b451 k451 .char (2 : Int32) (List.map Value.int (own_R ((fun _ => (0 : Int32))) 2)) (.int (0 : Int32)) := (Arv.new A451 (own_nn (a := 2) (by omega))).pad (own_pad0 _)
        obtain ⟨fs452, hr452, hrun452, hended452, hW452, hsame452⟩ := X451.leave (v := some (.ref b451)) (fun h => by rw [hrt] at h; cases h)
        refine own_done (retOut X451 hx hrt rfl (Or.inr (Or.inr (Or.inr (Or.inr ⟨rfl, rfl, rfl⟩)))) (hb hby d1_30) hr452) hrun452 hended452 ⟨_, _, rfl, ?_, ⟨_, rfl⟩, hW452, hsame452.mono (by decide) (by decide)⟩
        show Qmake Z p1 h0 n0 _ T451.heap _
        rw [e451]
        exact ⟨b451, k451, 2, rfl, N0, K451, g_b451, sz_b451, V_b451, (by omega)⟩
      · refine own_gk (XS.icmpYes X0.here hx rfl (pc0 := 24) (pc' := 31) rfl (hb hby d1_24) rfl (feq c24_450).2 (by decide) (by decide)) ?_
        refine own_gk (XS.iloadN X0.here hx rfl (hb hby d1_31) rfl) ?_
        refine own_gk (XS.iconst X0.here hx rfl (hb hby d1_32)) ?_
        by_cases c33_453 : (p1 &&& (7 : Int32)) = (3 : Int32)
        · refine own_gk (XS.icmpNo X0.here hx rfl (hb hby d1_33) rfl (teq c33_453).2) ?_
          show own_Fin _ _ _ _ (s₁.setTop (mkF m 36 #[iv p1, iv (p1 &&& (7 : Int32))] []))
          refine own_gk (XS.bipush X0.here hx rfl (hb hby d1_36)) ?_
          obtain ⟨T454, h454, k454, X454, e454, E454, A454, st454⟩ := newP X0 hx hZ (own_h hw 4 rfl) e0 (g := (mkF m 38 #[iv p1, iv (p1 &&& (7 : Int32))] [(.int (39 : Int32))])) rfl (hb hby d1_38) (n := (39 : Int32)) rfl (own_nn (a := 39) (by omega)) (cap := 57) (Nat.le_trans (Nat.le_of_eq (own_tn (a := 39) (by omega))) (by omega)) (by decide) (by decide) (by decide)
          obtain ⟨b454, g454⟩ : ∃ z, z = h0.size := ⟨_, rfl⟩
          rw [← g454] at A454 st454
          refine own_by st454 ?_
          have g_b454 : n0 ≤ b454 := Nat.le_trans Z0 (Nat.le_of_eq g454.symm)
          have sz_b454 : h0.size ≤ b454 := Nat.le_trans Kz.1 (Nat.le_of_eq g454.symm)
          have K454 := Kz.ext E454
          have Z454 : n0 ≤ h454.size := Nat.le_trans Z0 E454.1
          have V_b454 : Arv Z h454 b454 k454 .char (39 : Int32) (List.map Value.int (own_R ((fun _ => (0 : Int32))) 39)) (.int (0 : Int32)) := (Arv.new A454 (own_nn (a := 39) (by omega))).pad (own_pad0 _)
          obtain ⟨fs455, hr455, hrun455, hended455, hW455, hsame455⟩ := X454.leave (v := some (.ref b454)) (fun h => by rw [hrt] at h; cases h)
          refine own_done (retOut X454 hx hrt rfl (Or.inr (Or.inr (Or.inr (Or.inr ⟨rfl, rfl, rfl⟩)))) (hb hby d1_40) hr455) hrun455 hended455 ⟨_, _, rfl, ?_, ⟨_, rfl⟩, hW455, hsame455.mono (by decide) (by decide)⟩
          show Qmake Z p1 h0 n0 _ T454.heap _
          rw [e454]
          exact ⟨b454, k454, 39, rfl, N0, K454, g_b454, sz_b454, V_b454, (by omega)⟩
        · refine own_gk (XS.icmpYes X0.here hx rfl (pc0 := 33) (pc' := 41) rfl (hb hby d1_33) rfl (feq c33_453).2 (by decide) (by decide)) ?_
          show own_Fin _ _ _ _ (s₁.setTop (mkF m 41 #[iv p1, iv (p1 &&& (7 : Int32))] []))
          refine own_gk (XS.iloadN X0.here hx rfl (hb hby d1_41) rfl) ?_
          refine own_gk (XS.iconst X0.here hx rfl (hb hby d1_42)) ?_
          by_cases c43_456 : (p1 &&& (7 : Int32)) = (4 : Int32)
          · refine own_gk (XS.icmpNo X0.here hx rfl (hb hby d1_43) rfl (teq c43_456).2) ?_
            refine own_gk (XS.bipush X0.here hx rfl (hb hby d1_46)) ?_
            obtain ⟨T457, h457, k457, X457, e457, E457, A457, st457⟩ := newP X0 hx hZ (own_h hw 4 rfl) e0 (g := (mkF m 48 #[iv p1, iv (p1 &&& (7 : Int32))] [(.int (40 : Int32))])) rfl (hb hby d1_48) (n := (40 : Int32)) rfl (own_nn (a := 40) (by omega)) (cap := 57) (Nat.le_trans (Nat.le_of_eq (own_tn (a := 40) (by omega))) (by omega)) (by decide) (by decide) (by decide)
            obtain ⟨b457, g457⟩ : ∃ z, z = h0.size := ⟨_, rfl⟩
            rw [← g457] at A457 st457
            refine own_by st457 ?_
            have g_b457 : n0 ≤ b457 := Nat.le_trans Z0 (Nat.le_of_eq g457.symm)
            have sz_b457 : h0.size ≤ b457 := Nat.le_trans Kz.1 (Nat.le_of_eq g457.symm)
            have K457 := Kz.ext E457
            have Z457 : n0 ≤ h457.size := Nat.le_trans Z0 E457.1
            have V_b457 : Arv Z h457 b457 k457 .char (40 : Int32) (List.map Value.int (own_R ((fun _ => (0 : Int32))) 40)) (.int (0 : Int32)) := (Arv.new A457 (own_nn (a := 40) (by omega))).pad (own_pad0 _)
            show own_Fin _ _ _ _ (T457.setTop (mkF m 50 #[iv p1, iv (p1 &&& (7 : Int32))] [(.ref b457)]))
            obtain ⟨fs458, hr458, hrun458, hended458, hW458, hsame458⟩ := X457.leave (v := some (.ref b457)) (fun h => by rw [hrt] at h; cases h)
            refine own_done (retOut X457 hx hrt rfl (Or.inr (Or.inr (Or.inr (Or.inr ⟨rfl, rfl, rfl⟩)))) (hb hby d1_50) hr458) hrun458 hended458 ⟨_, _, rfl, ?_, ⟨_, rfl⟩, hW458, hsame458.mono (by decide) (by decide)⟩
            show Qmake Z p1 h0 n0 _ T457.heap _
            rw [e457]
            exact ⟨b457, k457, 40, rfl, N0, K457, g_b457, sz_b457, V_b457, (by omega)⟩
          · refine own_gk (XS.icmpYes X0.here hx rfl (pc0 := 43) (pc' := 51) rfl (hb hby d1_43) rfl (feq c43_456).2 (by decide) (by decide)) ?_
            refine own_gk (XS.iloadN X0.here hx rfl (hb hby d1_51) rfl) ?_
            refine own_gk (XS.iconst X0.here hx rfl (hb hby d1_52)) ?_
            show own_Fin _ _ _ _ (s₁.setTop (mkF m 53 #[iv p1, iv (p1 &&& (7 : Int32))] [(.int (5 : Int32)), (.int (p1 &&& (7 : Int32)))]))
            by_cases c53_459 : (p1 &&& (7 : Int32)) = (5 : Int32)
            · refine own_gk (XS.icmpNo X0.here hx rfl (hb hby d1_53) rfl (teq c53_459).2) ?_
              refine own_gk (XS.bipush X0.here hx rfl (hb hby d1_56)) ?_
              obtain ⟨T460, h460, k460, X460, e460, E460, A460, st460⟩ := newP X0 hx hZ (own_h hw 4 rfl) e0 (g := (mkF m 58 #[iv p1, iv (p1 &&& (7 : Int32))] [(.int (41 : Int32))])) rfl (hb hby d1_58) (n := (41 : Int32)) rfl (own_nn (a := 41) (by omega)) (cap := 57) (Nat.le_trans (Nat.le_of_eq (own_tn (a := 41) (by omega))) (by omega)) (by decide) (by decide) (by decide)
              obtain ⟨b460, g460⟩ : ∃ z, z = h0.size := ⟨_, rfl⟩
              rw [← g460] at A460 st460
              refine own_by st460 ?_
              have g_b460 : n0 ≤ b460 := Nat.le_trans Z0 (Nat.le_of_eq g460.symm)
              have sz_b460 : h0.size ≤ b460 := Nat.le_trans Kz.1 (Nat.le_of_eq g460.symm)
              have K460 := Kz.ext E460
              have Z460 : n0 ≤ h460.size := Nat.le_trans Z0 E460.1
              have V_b460 : Arv Z h460 b460 k460 .char (41 : Int32) (List.map Value.int (own_R ((fun _ => (0 : Int32))) 41)) (.int (0 : Int32)) := (Arv.new A460 (own_nn (a := 41) (by omega))).pad (own_pad0 _)
              obtain ⟨fs461, hr461, hrun461, hended461, hW461, hsame461⟩ := X460.leave (v := some (.ref b460)) (fun h => by rw [hrt] at h; cases h)
              refine own_done (retOut X460 hx hrt rfl (Or.inr (Or.inr (Or.inr (Or.inr ⟨rfl, rfl, rfl⟩)))) (hb hby d1_60) hr461) hrun461 hended461 ⟨_, _, rfl, ?_, ⟨_, rfl⟩, hW461, hsame461.mono (by decide) (by decide)⟩
              show Qmake Z p1 h0 n0 _ T460.heap _
              rw [e460]
              exact ⟨b460, k460, 41, rfl, N0, K460, g_b460, sz_b460, V_b460, (by omega)⟩
            · refine own_gk (XS.icmpYes X0.here hx rfl (pc0 := 53) (pc' := 61) rfl (hb hby d1_53) rfl (feq c53_459).2 (by decide) (by decide)) ?_
              refine own_gk (XS.iloadN X0.here hx rfl (hb hby d1_61) rfl) ?_
              refine own_gk (XS.bipush X0.here hx rfl (hb hby d1_62)) ?_
              by_cases c64_462 : (p1 &&& (7 : Int32)) = (6 : Int32)
              · refine own_gk (XS.icmpNo X0.here hx rfl (hb hby d1_64) rfl (teq c64_462).2) ?_
                refine own_gk (XS.bipush X0.here hx rfl (hb hby d1_67)) ?_
                show own_Fin _ _ _ _ (s₁.setTop (mkF m 69 #[iv p1, iv (p1 &&& (7 : Int32))] [(.int (42 : Int32))]))
                obtain ⟨T463, h463, k463, X463, e463, E463, A463, st463⟩ := newP X0 hx hZ (own_h hw 4 rfl) e0 (g := (mkF m 69 #[iv p1, iv (p1 &&& (7 : Int32))] [(.int (42 : Int32))])) rfl (hb hby d1_69) (n := (42 : Int32)) rfl (own_nn (a := 42) (by omega)) (cap := 57) (Nat.le_trans (Nat.le_of_eq (own_tn (a := 42) (by omega))) (by omega)) (by decide) (by decide) (by decide)
                obtain ⟨b463, g463⟩ : ∃ z, z = h0.size := ⟨_, rfl⟩
                rw [← g463] at A463 st463
                refine own_by st463 ?_
                have g_b463 : n0 ≤ b463 := Nat.le_trans Z0 (Nat.le_of_eq g463.symm)
                have sz_b463 : h0.size ≤ b463 := Nat.le_trans Kz.1 (Nat.le_of_eq g463.symm)
                have K463 := Kz.ext E463
                have Z463 : n0 ≤ h463.size := Nat.le_trans Z0 E463.1
                have V_b463 : Arv Z h463 b463 k463 .char (42 : Int32) (List.map Value.int (own_R ((fun _ => (0 : Int32))) 42)) (.int (0 : Int32)) := (Arv.new A463 (own_nn (a := 42) (by omega))).pad (own_pad0 _)
                obtain ⟨fs464, hr464, hrun464, hended464, hW464, hsame464⟩ := X463.leave (v := some (.ref b463)) (fun h => by rw [hrt] at h; cases h)
                refine own_done (retOut X463 hx hrt rfl (Or.inr (Or.inr (Or.inr (Or.inr ⟨rfl, rfl, rfl⟩)))) (hb hby d1_71) hr464) hrun464 hended464 ⟨_, _, rfl, ?_, ⟨_, rfl⟩, hW464, hsame464.mono (by decide) (by decide)⟩
                show Qmake Z p1 h0 n0 _ T463.heap _
                rw [e463]
                exact ⟨b463, k463, 42, rfl, N0, K463, g_b463, sz_b463, V_b463, (by omega)⟩
              · refine own_gk (XS.icmpYes X0.here hx rfl (pc0 := 64) (pc' := 72) rfl (hb hby d1_64) rfl (feq c64_462).2 (by decide) (by decide)) ?_
                refine own_gk (XS.bipush X0.here hx rfl (hb hby d1_72)) ?_
                show own_Fin _ _ _ _ (s₁.setTop (mkF m 74 #[iv p1, iv (p1 &&& (7 : Int32))] [(.int (57 : Int32))]))
                obtain ⟨T465, h465, k465, X465, e465, E465, A465, st465⟩ := newP X0 hx hZ (own_h hw 4 rfl) e0 (g := (mkF m 74 #[iv p1, iv (p1 &&& (7 : Int32))] [(.int (57 : Int32))])) rfl (hb hby d1_74) (n := (57 : Int32)) rfl (own_nn (a := 57) (by omega)) (cap := 57) (Nat.le_trans (Nat.le_of_eq (own_tn (a := 57) (by omega))) (by omega)) (by decide) (by decide) (by decide)
                obtain ⟨b465, g465⟩ : ∃ z, z = h0.size := ⟨_, rfl⟩
                rw [← g465] at A465 st465
                refine own_by st465 ?_
                have g_b465 : n0 ≤ b465 := Nat.le_trans Z0 (Nat.le_of_eq g465.symm)
                have sz_b465 : h0.size ≤ b465 := Nat.le_trans Kz.1 (Nat.le_of_eq g465.symm)
                have K465 := Kz.ext E465
                have Z465 : n0 ≤ h465.size := Nat.le_trans Z0 E465.1
                have V_b465 : Arv Z h465 b465 k465 .char (57 : Int32) (List.map Value.int (own_R ((fun _ => (0 : Int32))) 57)) (.int (0 : Int32)) := (Arv.new A465 (own_nn (a := 57) (by omega))).pad (own_pad0 _)
                obtain ⟨fs466, hr466, hrun466, hended466, hW466, hsame466⟩ := X465.leave (v := some (.ref b465)) (fun h => by rw [hrt] at h; cases h)
                refine own_done (retOut X465 hx hrt rfl (Or.inr (Or.inr (Or.inr (Or.inr ⟨rfl, rfl, rfl⟩)))) (hb hby d1_76) hr466) hrun466 hended466 ⟨_, _, rfl, ?_, ⟨_, rfl⟩, hW466, hsame466.mono (by decide) (by decide)⟩
                show Qmake Z p1 h0 n0 _ T465.heap _
                rw [e465]
                exact ⟨b465, k465, 57, rfl, N0, K465, g_b465, sz_b465, V_b465, (by omega)⟩
theorem pn_com_example_pricefence_pricefence_io_InputException : plainName "com/example/pricefence/pricefence/io/InputException" = true := by first | (simp [plainName, overriddenIn]; done) | decide +kernel
theorem ef_q1 (m : MethodId) (x0 : Addr) : entryFrame m #[(.ref x0)] 1 = mkF m 0 #[.val (.ref x0)] [] := by first | (simp [entryFrame, mkF, argsToLocals, Value.category]; done) | rfl
def Qq1 (Z : State) (a1 : Addr) (N : Nat) (cs : Nat → Int32) (h0 : Heap) (n0 : Nat) (v : Option Value) (h : Heap) (L : List Loc) : Prop := ∃ (r : Addr), v = some (.ref r) ∧ Fr n0 L ∧ Keep h0 h [] ∧ n0 ≤ r ∧ h0.size ≤ r ∧ own_Str Z h r (1 + N + 1) (own_q1 N cs)
abbrev Gq1 (Z : State) (a1 : Addr) (N : Nat) (cs : Nat → Int32) (h0 : Heap) (n0 : Nat) (s : State) : Outcome → State → Prop := fun o U' => ∃ v L, o = .returned v ∧ Qq1 Z a1 N cs h0 n0 v U'.heap L ∧ ReturnedEndW s o U' L ({ frames := 10, cells := 10, slots := 1056, locals := 143 } : Room).cells ({ frames := 10, cells := 10, slots := 1056, locals := 143 } : Room).slots
theorem d5_0 : decode prog_25_method_3_code 0 = .ok (.aload_n 0, 1) := by decide +kernel
theorem d5_1 : decode prog_25_method_3_code 1 = .ok (.invokevirtual 32, 3) := by decide +kernel
theorem d5_4 : decode prog_25_method_3_code 4 = .ok (.bipush 40, 2) := by decide +kernel
theorem d5_6 : decode prog_25_method_3_code 6 = .ok (.if_icmp .gt 28, 3) := by decide +kernel
theorem d5_9 : decode prog_25_method_3_code 9 = .ok (.new 1, 3) := by decide +kernel
theorem d5_12 : decode prog_25_method_3_code 12 = .ok (.dup, 1) := by decide +kernel
theorem d5_13 : decode prog_25_method_3_code 13 = .ok (.invokespecial 3, 3) := by decide +kernel
theorem d5_16 : decode prog_25_method_3_code 16 = .ok (.ldc 38, 2) := by decide +kernel
theorem d5_18 : decode prog_25_method_3_code 18 = .ok (.invokevirtual 7, 3) := by decide +kernel
theorem pd__28_Ljava_2f_lang_2f_String_3b__29_Ljava_2f_lang_2f_StringBuilder_3b_ : parseMethodDescriptor "(Ljava/lang/String;)Ljava/lang/StringBuilder;" = some ⟨[(.object "java/lang/String")], some (.object "java/lang/StringBuilder")⟩ := by decide +kernel
theorem d5_21 : decode prog_25_method_3_code 21 = .ok (.aload_n 0, 1) := by decide +kernel
theorem d5_22 : decode prog_25_method_3_code 22 = .ok (.invokevirtual 7, 3) := by decide +kernel
theorem d5_25 : decode prog_25_method_3_code 25 = .ok (.ldc 38, 2) := by decide +kernel
theorem d5_27 : decode prog_25_method_3_code 27 = .ok (.invokevirtual 7, 3) := by decide +kernel
theorem d5_30 : decode prog_25_method_3_code 30 = .ok (.invokevirtual 18, 3) := by decide +kernel
theorem pd__28__29_Ljava_2f_lang_2f_String_3b_ : parseMethodDescriptor "()Ljava/lang/String;" = some ⟨[], some (.object "java/lang/String")⟩ := by decide +kernel
theorem d5_33 : decode prog_25_method_3_code 33 = .ok (.areturn, 1) := by decide +kernel
set_option maxRecDepth 65536 in
set_option maxHeartbeats 40000000 in
theorem rmq1 (l : Launch) (Z : State) (a0 : Array Value) (hw : ∀ d ∈ tables_1, d.before a0 Z = true) (ws : List Jvm.Cond) (a1 : Addr) (N : Nat) (cs : Nat → Int32) (h0 : Heap) (n0 : Nat) (Z0 : n0 ≤ h0.size) (hS : own_Str Z h0 a1 N cs) (hch : ∀ i, own_ch (cs i)) (O0 : own_Old Z n0 h0) (hST : own_ST Z) (hcw : Jvm.Lit.compactW.before a0 Z = true) (hh38 : Jvm.Lit.constHeld Z "com/example/pricefence/pricefence/io/InputException" 38) (hh44 : Jvm.Lit.constHeld Z "com/example/pricefence/pricefence/io/InputException" 44) (hn0 : n0 = h0.size) (hN1 : N ≤ 40) (hNs : N ≤ 2 ∨ N = 39 ∨ N = 40) :
    MetFree l own_y5 (head1 (Jvm.Cond.code own_y5 prog_25_method_3_code 1 (some (.object "java/lang/String")) :: ws) ({ frames := 10, cells := 10, slots := 1056, locals := 143 } : Room)) (fun a U => a = #[(.ref a1)] ∧ (Z.Warmed39 U.vm ∧ own_K Z h0 U.vm) ∧ U.heap = h0) (fun _ _ _ _ _ => True) (fun _ U o U' => ∃ v L, o = .returned v ∧ Qq1 Z a1 N cs h0 n0 v U'.heap L ∧ ReturnedEndW U o U' L ({ frames := 10, cells := 10, slots := 1056, locals := 143 } : Room).cells ({ frames := 10, cells := 10, slots := 1056, locals := 143 } : Room).slots) := by
  refine MetFree.of_bodySF (plainFor_of_name pn_com_example_pricefence_pricefence_io_InputException) hisR ?_
  intro p e s m args below meth c s₁ Bd hml0 hP hK
  obtain ⟨rfl, ⟨hZ, hK0⟩, hh⟩ := hP
  have hx := Bd.exec
  have hby := Bd.bytes
  have hml : c.maxLocals = 1 := hml0
  have hown : s.vm.findClass "com/example/pricefence/pricefence/io/InputException" = some m.cls := findClass_of_methodNamed Bd.named
  have hnm := (name_of_methodNamed Bd.named Bd.method).1
  have X0 : Stand p l e ({ frames := 10, cells := 10, slots := 1056, locals := 143 } : Room) s m #[(.ref a1)] below meth c s₁ [] 0 0 := Stand.of_body Bd
  have e0 : s₁.heap = h0 := by rw [← hh, Bd.state]; rfl
  have es0 : s.heap = h0 := hh
  have N0 := Fr.nil n0
  show own_Fin p e below (Gq1 Z a1 N cs h0 n0 s) (s₁.setTop (entryFrame m #[(.ref a1)] 1))
  rw [ef_q1 m a1]
  have X0w : Stand p l e ({ frames := 10, cells := 10, slots := 1056, locals := 143 } : Room) (s.setVm s.vm) m #[(.ref a1)] below meth c s₁ [] 0 0 := X0
  have hS0 : s.Since s.vm 0 := (State.WarmedH.refl s).since 0
  have hk0 : 0 ≤ h0.size := Nat.zero_le _
  have Kz := Keep.refl h0 []
  have wS : ∀ a ∈ Bundle.stringAtoms, a.before a0 Z = true := by
    intro d hd
    simp only [Bundle.stringAtoms, List.mem_cons, List.not_mem_nil, or_false] at hd
    rcases hd with rfl | rfl | rfl | rfl | rfl | rfl | rfl
    · exact (own_h hw 7 rfl)
    · exact (own_h hw 6 rfl)
    · exact (own_h hw 19 rfl)
    · exact (own_h hw 20 rfl)
    · exact (own_h hw 21 rfl)
    · exact (own_h hw 22 rfl)
    · exact (own_h hw 23 rfl)
  obtain ⟨Ts0, IBq, hTs⟩ := own_K.ib hK0
  have E_a1 := hS.1
  refine own_gk (XS.aloadN X0w.here hx rfl (hb hby d5_0) rfl rfl) ?_
  obtain ⟨_, T467, Lc467, X467, hQ467, st467⟩ := own_callV X0w hx hZ E_a1 hown (own_h hw 30 rfl) (own_h hw 31 rfl) (notFace_of_selects (args := #[]) (mvT hZ (own_h hw 33 rfl))) (own_h hw 33 rfl) (own_h hw 32 rfl) (own_h hw 7 rfl) (own_h hw 34 rfl) (by decide) (rmlen l Z a0 hw [] a1 N cs h0 n0 Z0 hS O0 hST (by omega)) (W := 0) (by decide) (by decide) (g := (mkF m 1 #[rv a1] [(.ref a1)])) rfl (by rw [hml]; rfl) (argsL := []) (rest := []) (lenOf pd__28__29_I rfl) rfl (Nat.le_of_eq rfl) (hb hby d5_1) rfl e0 (by decide) (by decide)
  obtain ⟨rfl, Nq467, e467⟩ := hQ467
  refine own_go st467 ?_
  have N467 := Fr.app N0 Nq467
  refine own_gk (XS.bipush X467.here hx rfl (hb hby d5_4)) ?_
  refine own_gk (XS.icmpNo X467.here hx rfl (hb hby d5_6) rfl (flt (show ¬ ((40 : Int32) < (Int32.ofNat (N))) from (fun q => absurd ((own_ltN (a := 40) (b := N) (by omega) (by omega)).mp q) (by omega)))).2.2.1) ?_
  obtain ⟨T468, h468, X468, e468, E468, A468, D468, U468, st468⟩ := newO X467 hx hZ hown (own_h hw 41 rfl) (own_h hw 42 rfl) (own_h hw 43 rfl) e467 (g := (mkF m 9 #[rv a1] [])) rfl (hb hby d5_9) (by decide) (by decide)
  obtain ⟨b468, g468⟩ : ∃ z, z = h0.size := ⟨_, rfl⟩
  rw [← g468] at A468 D468 U468 st468
  refine own_by st468 ?_
  have ne_a1_b468 : a1 ≠ b468 := Nat.ne_of_lt (Nat.lt_of_lt_of_eq E_a1.lt g468.symm)
  have Od468 := O0.ext E468
  have E_a1_468 := E_a1.ext E468
  have g_b468 : n0 ≤ b468 := Nat.le_trans Z0 (Nat.le_of_eq g468.symm)
  have sz_b468 : h0.size ≤ b468 := Nat.le_trans Kz.1 (Nat.le_of_eq g468.symm)
  have K468 := Kz.ext E468
  have Z468 : n0 ≤ h468.size := Nat.le_trans Z0 E468.1
  have hk468 : 0 ≤ h468.size := Nat.le_trans hk0 E468.1
  have E_b468 := A468
  have F_value_b468 : Fld Z h468 b468 "java/lang/AbstractStringBuilder" "value" "[B" .null := D468 (Or.inl (own_h hw 56 rfl)) (ty := (.array .byte)) (by decide)
  have F_coder_b468 : Fld Z h468 b468 "java/lang/AbstractStringBuilder" "coder" "B" (.int (0 : Int32)) := D468 (Or.inl (own_h hw 58 rfl)) (ty := .byte) (by decide)
  have F_count_b468 : Fld Z h468 b468 "java/lang/AbstractStringBuilder" "count" "I" (.int (0 : Int32)) := D468 (Or.inl (own_h hw 72 rfl)) (ty := .int) (by decide)
  have F_maybeLatin1_b468 : Fld Z h468 b468 "java/lang/AbstractStringBuilder" "maybeLatin1" "Z" (.int (0 : Int32)) := D468 (Or.inl (own_h hw 262 rfl)) (ty := .boolean) (by decide)
  show own_Fin _ _ _ _ (T468.setTop (mkF m 12 #[rv a1] [(.ref b468)]))
  refine own_gk (XS.dup X468.here hx rfl (hb hby d5_12) rfl rfl) ?_
  obtain ⟨_, T469, Lc469, X469, hQ469, st469⟩ := own_callI X468 hx hZ rfl hown (own_h hw 44 rfl) (own_h hw 45 rfl) (own_h hw 43 rfl) (own_h hw 46 rfl) (by decide) (rmsbi l Z a0 hw [] b468 h468 n0 Z468 E_b468 F_value_b468 F_count_b468 F_coder_b468 F_maybeLatin1_b468 g_b468 Od468 hST) (W := 1) (by decide) (by decide) (g := (mkF m 13 #[rv a1] [(.ref b468), (.ref b468)])) rfl (by rw [hml]; rfl) (argsL := []) (rest := [(.ref b468)]) (lenOf pd__28__29_V rfl) rfl (Nat.le_of_eq rfl) (hb hby d5_13) rfl e468 (by decide) (by decide)
  refine own_go st469 ?_
  obtain ⟨b_469, kb_469, rfl, Nq469, K469, g_b_469, sb_b_469, r469_0, r469_1, r469_2, r469_3, r469_4, r469_5⟩ := hQ469
  have ne_a1_b_469 : a1 ≠ b_469 := Nat.ne_of_lt (Nat.lt_of_lt_of_le E_a1_468.lt sb_b_469)
  have ne_b468_b_469 : b468 ≠ b_469 := Nat.ne_of_lt (Nat.lt_of_lt_of_le E_b468.lt sb_b_469)
  have sz_b_469 : h0.size ≤ b_469 := Nat.le_trans K468.1 sb_b_469
  have Od469 := Od468.keep K469 (allS g_b468 all0)
  have E_a1_469 := E_a1_468.keep K469
  have E_b468_469 := E_b468.keep K469
  have Z469 : n0 ≤ T469.heap.size := Nat.le_trans Z468 K469.1
  have hk469 : 0 ≤ T469.heap.size := Nat.le_trans hk468 K469.1
  have Kt469 := K468.trans K469 (allS (P := fun x => x ∈ _ ∨ _ ≤ x) (Or.inr sz_b468) all0)
  have N469 := Fr.app N467 Nq469
  obtain ⟨a470, T470, h470, k470, b470, kc470, X470, e470, E470, hS470, hk470, hZ470, hown470, Ex470, Fc470, Fv470, Va470, la470, lb470, IB470, Li470, st470⟩ := ldcSVL (s := s) (vm0 := s.vm) X469 hx hZ hown (own_h hw 59 rfl) wS rfl hS0 hk469 (show Fr s.heap.size _ by rw [es0, ← hn0]; exact N469) (fun b cl q => by rw [es0]; exact O0.2.2 b cl q) IBq (fun q => absurd (hTs _ q) (by decide)) hh38 hcw (vs := [.int (39 : Int32)]) (z := (1 : Int32)) ⟨by decide, by decide⟩ (by decide) (by decide) (g := (mkF m 16 #[rv a1] [(.ref b468)])) rfl (hb hby d5_16) (n := 4) (by decide) (by decide) (by decide) (by decide)
  refine own_by st470 ?_
  have Od470 := Od469.ext E470
  have E_a1_470 := E_a1_469.ext E470
  have r469_0_470 := r469_0.ext E470
  have r469_1_470 := r469_1.ext E470
  have r469_2_470 := r469_2.ext E470
  have r469_3_470 := r469_3.ext E470
  have r469_4_470 := r469_4.ext E470
  have r469_5_470 := r469_5.ext E470
  have Z470 : n0 ≤ h470.size := Nat.le_trans Z469 E470.1
  have K470 := Kt469.ext E470
  have Vr470 : Arv Z h470 b470 kc470 .byte (1 : Int32) (List.map Value.int (own_R (own_lo own_qs) 1)) (.int (0 : Int32)) := Va470
  show own_Fin _ _ _ _ (T470.setTop (mkF m 18 #[rv a1] [(.ref a470), (.ref b468)]))
  have nq471 : a1 ≠ b_469 := ne_a1_b_469
  have nq472 : a470 ≠ b_469 := (Exa.neArv Ex470 r469_5_470 (own_h hw 6 rfl))
  have nq473 : b470 ≠ b_469 := (arv_ne Vr470 r469_5_470 (Or.inl (by decide)))
  obtain ⟨_, T474, Lc474, X474, hQ474, st474⟩ := own_callV X470 hx hZ470 r469_0_470 hown470 (own_h hw 60 rfl) (own_h hw 61 rfl) (notFace_of_selects (args := #[]) (mvT hZ470 (own_h hw 63 rfl))) (own_h hw 63 rfl) (own_h hw 62 rfl) (own_h hw 43 rfl) (own_h hw 64 rfl) (by decide) (rmsap_00 l Z a0 hw [] b468 b_469 kb_469 16 0 ((fun _ => (0 : Int32))) own_qs a470 b470 kc470 1 own_qs h470 n0 Z470 r469_0_470 r469_1_470 r469_2_470 r469_3_470 r469_4_470 r469_5_470 g_b468 g_b_469 Ex470 Fv470 Fc470 Vr470 (arv_ne r469_5_470 Vr470 (Or.inl (by decide))) Od470 hST (fun j hj => absurd hj (Nat.not_lt_zero _)) own_qsc (own_qsl 0) own_qsc (own_qsl 1) (by decide) (by decide) (by decide) (by omega) (by decide)) (W := 0) (by decide) (by decide) (g := (mkF m 18 #[rv a1] [(.ref a470), (.ref b468)])) rfl (by rw [hml]; rfl) (argsL := [(.ref a470)]) (rest := []) (lenOf pd__28_Ljava_2f_lang_2f_String_3b__29_Ljava_2f_lang_2f_StringBuilder_3b_ rfl) rfl (Nat.le_of_eq rfl) (hb hby d5_18) rfl e470 (by decide) (by decide)
  refine own_go st474 ?_
  obtain ⟨vb_474, kb_474, fb_474, rfl, Nq474, K474, r474_0, r474_1, r474_2, r474_3, r474_4, r474_5, r474_6, r474_7, r474_8⟩ := hQ474
  have Od474 := Od470.keep K474 (allS g_b468 (allS g_b_469 all0))
  have E_a1_474 := E_a1_470.keep K474
  have r469_0_474 := r469_0_470.keep K474
  have Ex470_474 := Ex470.keep K474
  have Fc470_474 := Fc470.keep K474 (ninS (Exa.ne Ex470 r469_0_470 (by decide)) (ninS (Exa.neArv Ex470 r469_5_470 (own_h hw 6 rfl)) nin0))
  have Fv470_474 := Fv470.keep K474 (ninS (Exa.ne Ex470 r469_0_470 (by decide)) (ninS (Exa.neArv Ex470 r469_5_470 (own_h hw 6 rfl)) nin0))
  have Vr470_474 := Vr470.keep K474 (ninS (Ne.symm (Exa.neArv r469_0_470 Vr470 (own_h hw 42 rfl))) (ninS (arv_ne Vr470 r469_5_470 (Or.inl (by decide))) nin0))
  have Z474 : n0 ≤ T474.heap.size := Nat.le_trans Z470 K474.1
  have hk474 : k470 ≤ T474.heap.size := Nat.le_trans hk470 K474.1
  have Kt474 := K470.trans K474 (allS (P := fun x => x ∈ _ ∨ _ ≤ x) (Or.inr sz_b468) (allS (P := fun x => x ∈ _ ∨ _ ≤ x) (Or.inr sz_b_469) all0))
  have g_vb_474 := r474_7
  have sz_vb_474 : h0.size ≤ vb_474 := own_szb r474_8 sz_b_469 K470.1
  have ne_a1_vb_474 : a1 ≠ vb_474 := own_nev r474_8 nq471 E_a1_470.lt
  have ne_a470_vb_474 : a470 ≠ vb_474 := own_nev r474_8 nq472 Ex470.lt
  have ne_b470_vb_474 : b470 ≠ vb_474 := own_nev r474_8 nq473 Vr470.lt
  have Fn475 : Fld Z T474.heap b468 "java/lang/AbstractStringBuilder" "count" "I" (.int (1 : Int32)) := r474_2
  have Vn475 : Arv Z T474.heap vb_474 kb_474 .byte (16 : Int32) (List.map Value.int (own_R fb_474 16)) (.int (0 : Int32)) := r474_5
  have N474 := Fr.app N469 Nq474
  refine own_gk (XS.aloadN X474.here hx rfl (hb hby d5_21) rfl rfl) ?_
  obtain ⟨E_s, v_s, kq_s, Fv_s, ⟨FcL, hal, VqL⟩ | ⟨FcU, VqU⟩⟩ := hS
  · have ne_vs : v_s ≠ vb_474 := Nat.ne_of_lt (Nat.lt_of_lt_of_le VqL.lt sz_vb_474)
    have E_sk := E_s.keep Kt474
    have Fv_sk := Fv_s.keep Kt474 nin0
    have FcLk := FcL.keep Kt474 nin0
    have VqLk := VqL.keep Kt474 nin0
    have nq476 : a1 ≠ vb_474 := ne_a1_vb_474
    have nq477 : a470 ≠ vb_474 := ne_a470_vb_474
    have nq478 : b470 ≠ vb_474 := ne_b470_vb_474
    have nq479 : v_s ≠ vb_474 := ne_vs
    obtain ⟨_, T480, Lc480, X480, hQ480, st480⟩ := own_callV X474 hx hZ470 r474_0 hown470 (own_h hw 60 rfl) (own_h hw 61 rfl) (notFace_of_selects (args := #[]) (mvT hZ470 (own_h hw 63 rfl))) (own_h hw 63 rfl) (own_h hw 62 rfl) (own_h hw 43 rfl) (own_h hw 64 rfl) (by decide) (rmsap_00 l Z a0 hw [] b468 vb_474 kb_474 16 1 fb_474 (own_app own_qs 0 own_qs) a1 v_s kq_s N cs T474.heap n0 Z474 r474_0 r474_1 Fn475 r474_3 r474_4 Vn475 g_b468 g_vb_474 E_sk Fv_sk FcLk VqLk (Ne.symm ne_vs) Od474 hST r474_6 (own_chapp own_qsc own_qsc) (own_clapp (own_qsl 0) (own_qsl 1)) hch hal (by decide) (by decide) (by decide) (by omega) (Nat.le_trans (own_cq1 hN1).2.2 (by decide))) (W := 0) (by decide) (by decide) (g := (mkF m 22 #[rv a1] [(.ref a1), (.ref b468)])) rfl (by rw [hml]; rfl) (argsL := [(.ref a1)]) (rest := []) (lenOf pd__28_Ljava_2f_lang_2f_String_3b__29_Ljava_2f_lang_2f_StringBuilder_3b_ rfl) rfl (Nat.le_of_eq rfl) (hb hby d5_22) rfl rfl (by decide) (by decide)
    refine own_go st480 ?_
    obtain ⟨vb_480, kb_480, fb_480, rfl, Nq480, K480, r480_0, r480_1, r480_2, r480_3, r480_4, r480_5, r480_6, r480_7, r480_8⟩ := hQ480
    have Od480 := Od474.keep K480 (allS g_b468 (allS g_vb_474 all0))
    have E_sk_480 := E_sk.keep K480
    have r474_0_480 := r474_0.keep K480
    have Ex470_480 := Ex470_474.keep K480
    have Fc470_480 := Fc470_474.keep K480 (ninS (Exa.ne Ex470_474 r474_0 (by decide)) (ninS ne_a470_vb_474 nin0))
    have Fv470_480 := Fv470_474.keep K480 (ninS (Exa.ne Ex470_474 r474_0 (by decide)) (ninS ne_a470_vb_474 nin0))
    have Vr470_480 := Vr470_474.keep K480 (ninS (Ne.symm (Exa.neArv r474_0 Vr470_474 (own_h hw 42 rfl))) (ninS ne_b470_vb_474 nin0))
    have Fv_sk_480 := Fv_sk.keep K480 (ninS ne_a1_b468 (ninS ne_a1_vb_474 nin0))
    have FcLk_480 := FcLk.keep K480 (ninS ne_a1_b468 (ninS ne_a1_vb_474 nin0))
    have VqLk_480 := VqLk.keep K480 (ninS (Ne.symm (Exa.neArv r474_0 VqLk (own_h hw 42 rfl))) (ninS ne_vs nin0))
    have Z480 : n0 ≤ T480.heap.size := Nat.le_trans Z474 K480.1
    have hk480 : k470 ≤ T480.heap.size := Nat.le_trans hk474 K480.1
    have Kt480 := Kt474.trans K480 (allS (P := fun x => x ∈ _ ∨ _ ≤ x) (Or.inr sz_b468) (allS (P := fun x => x ∈ _ ∨ _ ≤ x) (Or.inr sz_vb_474) all0))
    have g_vb_480 := r480_7
    have sz_vb_480 : h0.size ≤ vb_480 := own_szb r480_8 sz_vb_474 Kt474.1
    have ne_a1_vb_480 : a1 ≠ vb_480 := own_nev r480_8 nq476 E_sk.lt
    have ne_a470_vb_480 : a470 ≠ vb_480 := own_nev r480_8 nq477 Ex470_474.lt
    have ne_b470_vb_480 : b470 ≠ vb_480 := own_nev r480_8 nq478 Vr470_474.lt
    have ne_v_s_vb_480 : v_s ≠ vb_480 := own_nev r480_8 nq479 VqLk.lt
    have N480 := Fr.app N474 Nq480
    refine own_by (ldcAgain (s := s) (vm0 := T470.vm) X480 hx hZ470 hown470 (own_h hw 59 rfl) Li470 (g := (mkF m 25 #[rv a1] [(.ref b468)])) rfl (hb hby d5_25)) ?_
    show own_Fin _ _ _ _ (T480.setTop (mkF m 27 #[rv a1] [(.ref a470), (.ref b468)]))
    have nq481 : a1 ≠ vb_480 := ne_a1_vb_480
    have nq482 : a470 ≠ vb_480 := ne_a470_vb_480
    have nq483 : b470 ≠ vb_480 := ne_b470_vb_480
    have nq484 : v_s ≠ vb_480 := ne_v_s_vb_480
    obtain ⟨_, T485, Lc485, X485, hQ485, st485⟩ := own_callV X480 hx hZ470 r480_0 hown470 (own_h hw 60 rfl) (own_h hw 61 rfl) (notFace_of_selects (args := #[]) (mvT hZ470 (own_h hw 63 rfl))) (own_h hw 63 rfl) (own_h hw 62 rfl) (own_h hw 43 rfl) (own_h hw 64 rfl) (by decide) (rmsap_00 l Z a0 hw [] b468 vb_480 kb_480 (own_cap 16 (1 + N)) (1 + N) fb_480 (own_app (own_app own_qs 0 own_qs) 1 cs) a470 b470 kc470 1 own_qs T480.heap n0 Z480 r480_0 r480_1 r480_2 r480_3 r480_4 r480_5 g_b468 g_vb_480 Ex470_480 Fv470_480 Fc470_480 Vr470_480 (Ne.symm ne_b470_vb_480) Od480 hST r480_6 (own_chapp (own_chapp own_qsc own_qsc) hch) (own_clapp (own_clapp (own_qsl 0) (own_qsl 1)) hal) own_qsc (own_qsl 1) (own_cq1 hN1).1 (own_cq1 hN1).2.1 (Nat.le_trans (own_cq1 hN1).2.2 (by decide)) (by omega) (own_cq2 hNs).1) (W := 0) (by decide) (by decide) (g := (mkF m 27 #[rv a1] [(.ref a470), (.ref b468)])) rfl (by rw [hml]; rfl) (argsL := [(.ref a470)]) (rest := []) (lenOf pd__28_Ljava_2f_lang_2f_String_3b__29_Ljava_2f_lang_2f_StringBuilder_3b_ rfl) rfl (Nat.le_of_eq rfl) (hb hby d5_27) rfl rfl (by decide) (by decide)
    refine own_go st485 ?_
    obtain ⟨vb_485, kb_485, fb_485, rfl, Nq485, K485, r485_0, r485_1, r485_2, r485_3, r485_4, r485_5, r485_6, r485_7, r485_8⟩ := hQ485
    have Od485 := Od480.keep K485 (allS g_b468 (allS g_vb_480 all0))
    have E_sk_485 := E_sk_480.keep K485
    have r480_0_485 := r480_0.keep K485
    have Ex470_485 := Ex470_480.keep K485
    have Fc470_485 := Fc470_480.keep K485 (ninS (Exa.ne Ex470_480 r480_0 (by decide)) (ninS ne_a470_vb_480 nin0))
    have Fv470_485 := Fv470_480.keep K485 (ninS (Exa.ne Ex470_480 r480_0 (by decide)) (ninS ne_a470_vb_480 nin0))
    have Vr470_485 := Vr470_480.keep K485 (ninS (Ne.symm (Exa.neArv r480_0 Vr470_480 (own_h hw 42 rfl))) (ninS ne_b470_vb_480 nin0))
    have Fv_sk_485 := Fv_sk_480.keep K485 (ninS ne_a1_b468 (ninS ne_a1_vb_480 nin0))
    have FcLk_485 := FcLk_480.keep K485 (ninS ne_a1_b468 (ninS ne_a1_vb_480 nin0))
    have VqLk_485 := VqLk_480.keep K485 (ninS (Ne.symm (Exa.neArv r480_0 VqLk_480 (own_h hw 42 rfl))) (ninS ne_v_s_vb_480 nin0))
    have Z485 : n0 ≤ T485.heap.size := Nat.le_trans Z480 K485.1
    have hk485 : k470 ≤ T485.heap.size := Nat.le_trans hk480 K485.1
    have Kt485 := Kt480.trans K485 (allS (P := fun x => x ∈ _ ∨ _ ≤ x) (Or.inr sz_b468) (allS (P := fun x => x ∈ _ ∨ _ ≤ x) (Or.inr sz_vb_480) all0))
    have g_vb_485 := r485_7
    have sz_vb_485 : h0.size ≤ vb_485 := own_szb r485_8 sz_vb_480 Kt480.1
    have ne_a1_vb_485 : a1 ≠ vb_485 := own_nev r485_8 nq481 E_sk_480.lt
    have ne_a470_vb_485 : a470 ≠ vb_485 := own_nev r485_8 nq482 Ex470_480.lt
    have ne_b470_vb_485 : b470 ≠ vb_485 := own_nev r485_8 nq483 Vr470_480.lt
    have ne_v_s_vb_485 : v_s ≠ vb_485 := own_nev r485_8 nq484 VqLk_480.lt
    have N485 := Fr.app N480 Nq485
    obtain ⟨_, T486, Lc486, X486, hQ486, st486⟩ := own_callV X485 hx hZ470 r485_0 hown470 (own_h hw 98 rfl) (own_h hw 99 rfl) (notFace_of_selects (args := #[]) (mvT hZ470 (own_h hw 101 rfl))) (own_h hw 101 rfl) (own_h hw 100 rfl) (own_h hw 43 rfl) (own_h hw 102 rfl) (by decide) (rmts_0 l Z a0 hw [] b468 vb_485 kb_485 (own_cap (own_cap 16 (1 + N)) ((1 + N) + 1)) (1 + N + 1) fb_485 (own_app (own_app (own_app own_qs 0 own_qs) 1 cs) (1 + N) own_qs) T485.heap n0 Z485 r485_0 r485_1 r485_2 r485_3 r485_4 r485_5 r485_6 (own_cq2 hNs).1 (own_cq2 hNs).2 (by omega) Od485 hST (own_clapp (own_clapp (own_clapp (own_qsl 0) (own_qsl 1)) hal) (own_qsl 1))) (W := 0) (by decide) (by decide) (g := (mkF m 30 #[rv a1] [(.ref b468)])) rfl (by rw [hml]; rfl) (argsL := []) (rest := []) (lenOf pd__28__29_Ljava_2f_lang_2f_String_3b_ rfl) rfl (Nat.le_of_eq rfl) (hb hby d5_30) rfl rfl (by decide) (by decide)
    refine own_go st486 ?_
    obtain ⟨r_486, rfl, Nq486, K486, g_r_486, sb_r_486, r486_0⟩ := hQ486
    have ne_a1_r_486 : a1 ≠ r_486 := Nat.ne_of_lt (Nat.lt_of_lt_of_le E_sk_485.lt sb_r_486)
    have ne_b468_r_486 : b468 ≠ r_486 := Nat.ne_of_lt (Nat.lt_of_lt_of_le r485_0.lt sb_r_486)
    have ne_a470_r_486 : a470 ≠ r_486 := Nat.ne_of_lt (Nat.lt_of_lt_of_le Ex470_485.lt sb_r_486)
    have ne_b470_r_486 : b470 ≠ r_486 := Nat.ne_of_lt (Nat.lt_of_lt_of_le Vr470_485.lt sb_r_486)
    have ne_v_s_r_486 : v_s ≠ r_486 := Nat.ne_of_lt (Nat.lt_of_lt_of_le VqLk_485.lt sb_r_486)
    have ne_vb_485_r_486 : vb_485 ≠ r_486 := Nat.ne_of_lt (Nat.lt_of_lt_of_le r485_5.lt sb_r_486)
    have sz_r_486 : h0.size ≤ r_486 := Nat.le_trans Kt485.1 sb_r_486
    have Od486 := Od485.keep K486 all0
    have E_sk_486 := E_sk_485.keep K486
    have r485_0_486 := r485_0.keep K486
    have Ex470_486 := Ex470_485.keep K486
    have Fc470_486 := Fc470_485.keep K486 nin0
    have Fv470_486 := Fv470_485.keep K486 nin0
    have Vr470_486 := Vr470_485.keep K486 nin0
    have Fv_sk_486 := Fv_sk_485.keep K486 nin0
    have FcLk_486 := FcLk_485.keep K486 nin0
    have VqLk_486 := VqLk_485.keep K486 nin0
    have r485_1_486 := r485_1.keep K486 nin0
    have r485_2_486 := r485_2.keep K486 nin0
    have r485_3_486 := r485_3.keep K486 nin0
    have r485_4_486 := r485_4.keep K486 nin0
    have r485_5_486 := r485_5.keep K486 nin0
    have Z486 : n0 ≤ T486.heap.size := Nat.le_trans Z485 K486.1
    have hk486 : k470 ≤ T486.heap.size := Nat.le_trans hk485 K486.1
    have Kt486 := Kt485.trans K486 all0
    have N486 := Fr.app N485 Nq486
    obtain ⟨fs487, hr487, hrun487, hended487, hRW487⟩ := X486.leaveW (s := s) hS470 (n := k470) hk486 (v := some (.ref r_486)) (fun h => by rw [Bd.returns] at h; cases h)
    refine own_done (retOut X486 hx Bd.returns rfl (Or.inr (Or.inr (Or.inr (Or.inr ⟨rfl, rfl, rfl⟩)))) (hb hby d5_33) hr487) hrun487 hended487 ⟨_, _, rfl, ?_, hRW487.1, hRW487.2.1, hRW487.2.2.1, hRW487.2.2.2.mono (by decide) (by decide)⟩
    show Qq1 Z a1 N cs h0 n0 _ T486.heap _
    exact ⟨r_486, rfl, N486, Kt486, g_r_486, sz_r_486, r486_0⟩
  · have ne_vs : v_s ≠ vb_474 := Nat.ne_of_lt (Nat.lt_of_lt_of_le VqU.lt sz_vb_474)
    have E_sk := E_s.keep Kt474
    have Fv_sk := Fv_s.keep Kt474 nin0
    have FcUk := FcU.keep Kt474 nin0
    have VqUk := VqU.keep Kt474 nin0
    have nq488 : a1 ≠ vb_474 := ne_a1_vb_474
    have nq489 : a470 ≠ vb_474 := ne_a470_vb_474
    have nq490 : b470 ≠ vb_474 := ne_b470_vb_474
    have nq491 : v_s ≠ vb_474 := ne_vs
    obtain ⟨_, T492, Lc492, X492, hQ492, st492⟩ := own_callV X474 hx hZ470 r474_0 hown470 (own_h hw 60 rfl) (own_h hw 61 rfl) (notFace_of_selects (args := #[]) (mvT hZ470 (own_h hw 63 rfl))) (own_h hw 63 rfl) (own_h hw 62 rfl) (own_h hw 43 rfl) (own_h hw 64 rfl) (by decide) (rmsap_01 l Z a0 hw [] b468 vb_474 kb_474 16 1 fb_474 (own_app own_qs 0 own_qs) a1 v_s kq_s N cs T474.heap n0 Z474 r474_0 r474_1 Fn475 r474_3 r474_4 Vn475 g_b468 g_vb_474 E_sk Fv_sk FcUk VqUk (Ne.symm ne_vs) Od474 hST r474_6 (own_chapp own_qsc own_qsc) (own_clapp (own_qsl 0) (own_qsl 1)) hch (by decide) (by decide) (by decide) (by omega) (own_cq1 hN1).2.2) (W := 0) (by decide) (by decide) (g := (mkF m 22 #[rv a1] [(.ref a1), (.ref b468)])) rfl (by rw [hml]; rfl) (argsL := [(.ref a1)]) (rest := []) (lenOf pd__28_Ljava_2f_lang_2f_String_3b__29_Ljava_2f_lang_2f_StringBuilder_3b_ rfl) rfl (Nat.le_of_eq rfl) (hb hby d5_22) rfl rfl (by decide) (by decide)
    refine own_go st492 ?_
    obtain ⟨vb_492, kb_492, fb_492, rfl, Nq492, K492, r492_0, r492_1, r492_2, r492_3, r492_4, r492_5, r492_6, r492_7, r492_8⟩ := hQ492
    have Od492 := Od474.keep K492 (allS g_b468 (allS g_vb_474 all0))
    have E_sk_492 := E_sk.keep K492
    have r474_0_492 := r474_0.keep K492
    have Ex470_492 := Ex470_474.keep K492
    have Fc470_492 := Fc470_474.keep K492 (ninS (Exa.ne Ex470_474 r474_0 (by decide)) (ninS ne_a470_vb_474 nin0))
    have Fv470_492 := Fv470_474.keep K492 (ninS (Exa.ne Ex470_474 r474_0 (by decide)) (ninS ne_a470_vb_474 nin0))
    have Vr470_492 := Vr470_474.keep K492 (ninS (Ne.symm (Exa.neArv r474_0 Vr470_474 (own_h hw 42 rfl))) (ninS ne_b470_vb_474 nin0))
    have Fv_sk_492 := Fv_sk.keep K492 (ninS ne_a1_b468 (ninS ne_a1_vb_474 nin0))
    have FcUk_492 := FcUk.keep K492 (ninS ne_a1_b468 (ninS ne_a1_vb_474 nin0))
    have VqUk_492 := VqUk.keep K492 (ninS (Ne.symm (Exa.neArv r474_0 VqUk (own_h hw 42 rfl))) (ninS ne_vs nin0))
    have Z492 : n0 ≤ T492.heap.size := Nat.le_trans Z474 K492.1
    have hk492 : k470 ≤ T492.heap.size := Nat.le_trans hk474 K492.1
    have Kt492 := Kt474.trans K492 (allS (P := fun x => x ∈ _ ∨ _ ≤ x) (Or.inr sz_b468) (allS (P := fun x => x ∈ _ ∨ _ ≤ x) (Or.inr sz_vb_474) all0))
    have g_vb_492 := r492_7
    have sz_vb_492 : h0.size ≤ vb_492 := own_szb r492_8 sz_vb_474 Kt474.1
    have ne_a1_vb_492 : a1 ≠ vb_492 := own_nev r492_8 nq488 E_sk.lt
    have ne_a470_vb_492 : a470 ≠ vb_492 := own_nev r492_8 nq489 Ex470_474.lt
    have ne_b470_vb_492 : b470 ≠ vb_492 := own_nev r492_8 nq490 Vr470_474.lt
    have ne_v_s_vb_492 : v_s ≠ vb_492 := own_nev r492_8 nq491 VqUk.lt
    have N492 := Fr.app N474 Nq492
    refine own_by (ldcAgain (s := s) (vm0 := T470.vm) X492 hx hZ470 hown470 (own_h hw 59 rfl) Li470 (g := (mkF m 25 #[rv a1] [(.ref b468)])) rfl (hb hby d5_25)) ?_
    show own_Fin _ _ _ _ (T492.setTop (mkF m 27 #[rv a1] [(.ref a470), (.ref b468)]))
    have nq493 : a1 ≠ vb_492 := ne_a1_vb_492
    have nq494 : a470 ≠ vb_492 := ne_a470_vb_492
    have nq495 : b470 ≠ vb_492 := ne_b470_vb_492
    have nq496 : v_s ≠ vb_492 := ne_v_s_vb_492
    obtain ⟨_, T497, Lc497, X497, hQ497, st497⟩ := own_callV X492 hx hZ470 r492_0 hown470 (own_h hw 60 rfl) (own_h hw 61 rfl) (notFace_of_selects (args := #[]) (mvT hZ470 (own_h hw 63 rfl))) (own_h hw 63 rfl) (own_h hw 62 rfl) (own_h hw 43 rfl) (own_h hw 64 rfl) (by decide) (rmsap_10 l Z a0 hw [] b468 vb_492 kb_492 (own_cap 16 (1 + N)) (1 + N) fb_492 (own_app (own_app own_qs 0 own_qs) 1 cs) a470 b470 kc470 1 own_qs T492.heap n0 Z492 r492_0 r492_1 r492_2 r492_3 r492_4 r492_5 g_b468 g_vb_492 Ex470_492 Fv470_492 Fc470_492 Vr470_492 (Ne.symm ne_b470_vb_492) Od492 hST r492_6 (own_chapp (own_chapp own_qsc own_qsc) hch) own_qsc (own_qsl 1) (own_cq1 hN1).1 (own_cq1 hN1).2.1 (Nat.le_trans (own_cq1 hN1).2.2 (by decide)) (by omega) (own_cq2 hNs).1) (W := 0) (by decide) (by decide) (g := (mkF m 27 #[rv a1] [(.ref a470), (.ref b468)])) rfl (by rw [hml]; rfl) (argsL := [(.ref a470)]) (rest := []) (lenOf pd__28_Ljava_2f_lang_2f_String_3b__29_Ljava_2f_lang_2f_StringBuilder_3b_ rfl) rfl (Nat.le_of_eq rfl) (hb hby d5_27) rfl rfl (by decide) (by decide)
    refine own_go st497 ?_
    obtain ⟨vb_497, kb_497, fb_497, rfl, Nq497, K497, r497_0, r497_1, r497_2, r497_3, r497_4, r497_5, r497_6, r497_7, r497_8⟩ := hQ497
    have Od497 := Od492.keep K497 (allS g_b468 (allS g_vb_492 all0))
    have E_sk_497 := E_sk_492.keep K497
    have r492_0_497 := r492_0.keep K497
    have Ex470_497 := Ex470_492.keep K497
    have Fc470_497 := Fc470_492.keep K497 (ninS (Exa.ne Ex470_492 r492_0 (by decide)) (ninS ne_a470_vb_492 nin0))
    have Fv470_497 := Fv470_492.keep K497 (ninS (Exa.ne Ex470_492 r492_0 (by decide)) (ninS ne_a470_vb_492 nin0))
    have Vr470_497 := Vr470_492.keep K497 (ninS (Ne.symm (Exa.neArv r492_0 Vr470_492 (own_h hw 42 rfl))) (ninS ne_b470_vb_492 nin0))
    have Fv_sk_497 := Fv_sk_492.keep K497 (ninS ne_a1_b468 (ninS ne_a1_vb_492 nin0))
    have FcUk_497 := FcUk_492.keep K497 (ninS ne_a1_b468 (ninS ne_a1_vb_492 nin0))
    have VqUk_497 := VqUk_492.keep K497 (ninS (Ne.symm (Exa.neArv r492_0 VqUk_492 (own_h hw 42 rfl))) (ninS ne_v_s_vb_492 nin0))
    have Z497 : n0 ≤ T497.heap.size := Nat.le_trans Z492 K497.1
    have hk497 : k470 ≤ T497.heap.size := Nat.le_trans hk492 K497.1
    have Kt497 := Kt492.trans K497 (allS (P := fun x => x ∈ _ ∨ _ ≤ x) (Or.inr sz_b468) (allS (P := fun x => x ∈ _ ∨ _ ≤ x) (Or.inr sz_vb_492) all0))
    have g_vb_497 := r497_7
    have sz_vb_497 : h0.size ≤ vb_497 := own_szb r497_8 sz_vb_492 Kt492.1
    have ne_a1_vb_497 : a1 ≠ vb_497 := own_nev r497_8 nq493 E_sk_492.lt
    have ne_a470_vb_497 : a470 ≠ vb_497 := own_nev r497_8 nq494 Ex470_492.lt
    have ne_b470_vb_497 : b470 ≠ vb_497 := own_nev r497_8 nq495 Vr470_492.lt
    have ne_v_s_vb_497 : v_s ≠ vb_497 := own_nev r497_8 nq496 VqUk_492.lt
    have N497 := Fr.app N492 Nq497
    obtain ⟨_, T498, Lc498, X498, hQ498, st498⟩ := own_callV X497 hx hZ470 r497_0 hown470 (own_h hw 98 rfl) (own_h hw 99 rfl) (notFace_of_selects (args := #[]) (mvT hZ470 (own_h hw 101 rfl))) (own_h hw 101 rfl) (own_h hw 100 rfl) (own_h hw 43 rfl) (own_h hw 102 rfl) (by decide) (rmts_1 l Z a0 hw [] b468 vb_497 kb_497 (own_cap (own_cap 16 (1 + N)) ((1 + N) + 1)) (1 + N + 1) fb_497 (own_app (own_app (own_app own_qs 0 own_qs) 1 cs) (1 + N) own_qs) T497.heap n0 Z497 r497_0 r497_1 r497_2 r497_3 r497_4 r497_5 r497_6 (own_cq2 hNs).1 (own_cq2 hNs).2 (by omega) Od497 hST) (W := 0) (by decide) (by decide) (g := (mkF m 30 #[rv a1] [(.ref b468)])) rfl (by rw [hml]; rfl) (argsL := []) (rest := []) (lenOf pd__28__29_Ljava_2f_lang_2f_String_3b_ rfl) rfl (Nat.le_of_eq rfl) (hb hby d5_30) rfl rfl (by decide) (by decide)
    refine own_go st498 ?_
    obtain ⟨r_498, rfl, Nq498, K498, g_r_498, sb_r_498, r498_0⟩ := hQ498
    have ne_a1_r_498 : a1 ≠ r_498 := Nat.ne_of_lt (Nat.lt_of_lt_of_le E_sk_497.lt sb_r_498)
    have ne_b468_r_498 : b468 ≠ r_498 := Nat.ne_of_lt (Nat.lt_of_lt_of_le r497_0.lt sb_r_498)
    have ne_a470_r_498 : a470 ≠ r_498 := Nat.ne_of_lt (Nat.lt_of_lt_of_le Ex470_497.lt sb_r_498)
    have ne_b470_r_498 : b470 ≠ r_498 := Nat.ne_of_lt (Nat.lt_of_lt_of_le Vr470_497.lt sb_r_498)
    have ne_v_s_r_498 : v_s ≠ r_498 := Nat.ne_of_lt (Nat.lt_of_lt_of_le VqUk_497.lt sb_r_498)
    have ne_vb_497_r_498 : vb_497 ≠ r_498 := Nat.ne_of_lt (Nat.lt_of_lt_of_le r497_5.lt sb_r_498)
    have sz_r_498 : h0.size ≤ r_498 := Nat.le_trans Kt497.1 sb_r_498
    have Od498 := Od497.keep K498 all0
    have E_sk_498 := E_sk_497.keep K498
    have r497_0_498 := r497_0.keep K498
    have Ex470_498 := Ex470_497.keep K498
    have Fc470_498 := Fc470_497.keep K498 nin0
    have Fv470_498 := Fv470_497.keep K498 nin0
    have Vr470_498 := Vr470_497.keep K498 nin0
    have Fv_sk_498 := Fv_sk_497.keep K498 nin0
    have FcUk_498 := FcUk_497.keep K498 nin0
    have VqUk_498 := VqUk_497.keep K498 nin0
    have r497_1_498 := r497_1.keep K498 nin0
    have r497_2_498 := r497_2.keep K498 nin0
    have r497_3_498 := r497_3.keep K498 nin0
    have r497_4_498 := r497_4.keep K498 nin0
    have r497_5_498 := r497_5.keep K498 nin0
    have Z498 : n0 ≤ T498.heap.size := Nat.le_trans Z497 K498.1
    have hk498 : k470 ≤ T498.heap.size := Nat.le_trans hk497 K498.1
    have Kt498 := Kt497.trans K498 all0
    have N498 := Fr.app N497 Nq498
    obtain ⟨fs499, hr499, hrun499, hended499, hRW499⟩ := X498.leaveW (s := s) hS470 (n := k470) hk498 (v := some (.ref r_498)) (fun h => by rw [Bd.returns] at h; cases h)
    refine own_done (retOut X498 hx Bd.returns rfl (Or.inr (Or.inr (Or.inr (Or.inr ⟨rfl, rfl, rfl⟩)))) (hb hby d5_33) hr499) hrun499 hended499 ⟨_, _, rfl, ?_, hRW499.1, hRW499.2.1, hRW499.2.2.1, hRW499.2.2.2.mono (by decide) (by decide)⟩
    show Qq1 Z a1 N cs h0 n0 _ T498.heap _
    exact ⟨r_498, rfl, N498, Kt498, g_r_498, sz_r_498, r498_0⟩
theorem ef_q2 (m : MethodId) (x0 : Addr) : entryFrame m #[(.ref x0)] 1 = mkF m 0 #[.val (.ref x0)] [] := by first | (simp [entryFrame, mkF, argsToLocals, Value.category]; done) | rfl
def Qq2 (Z : State) (a1 : Addr) (N : Nat) (cs : Nat → Int32) (h0 : Heap) (n0 : Nat) (v : Option Value) (h : Heap) (L : List Loc) : Prop := ∃ (r : Addr), v = some (.ref r) ∧ Fr n0 L ∧ Keep h0 h [] ∧ n0 ≤ r ∧ h0.size ≤ r ∧ own_Str Z h r (1 + 40 + 4) (own_q2 cs)
abbrev Gq2 (Z : State) (a1 : Addr) (N : Nat) (cs : Nat → Int32) (h0 : Heap) (n0 : Nat) (s : State) : Outcome → State → Prop := fun o U' => ∃ v L, o = .returned v ∧ Qq2 Z a1 N cs h0 n0 v U'.heap L ∧ ReturnedEndW s o U' L ({ frames := 10, cells := 15, slots := 1248, locals := 143 } : Room).cells ({ frames := 10, cells := 15, slots := 1248, locals := 143 } : Room).slots
theorem d5_34 : decode prog_25_method_3_code 34 = .ok (.new 1, 3) := by decide +kernel
theorem d5_37 : decode prog_25_method_3_code 37 = .ok (.dup, 1) := by decide +kernel
theorem d5_38 : decode prog_25_method_3_code 38 = .ok (.invokespecial 3, 3) := by decide +kernel
theorem d5_41 : decode prog_25_method_3_code 41 = .ok (.ldc 38, 2) := by decide +kernel
theorem d5_43 : decode prog_25_method_3_code 43 = .ok (.invokevirtual 7, 3) := by decide +kernel
theorem d5_46 : decode prog_25_method_3_code 46 = .ok (.aload_n 0, 1) := by decide +kernel
theorem d5_47 : decode prog_25_method_3_code 47 = .ok (.iconst 0, 1) := by decide +kernel
theorem d5_48 : decode prog_25_method_3_code 48 = .ok (.bipush 40, 2) := by decide +kernel
theorem d5_50 : decode prog_25_method_3_code 50 = .ok (.invokevirtual 40, 3) := by decide +kernel
theorem pd__28_II_29_Ljava_2f_lang_2f_String_3b_ : parseMethodDescriptor "(II)Ljava/lang/String;" = some ⟨[.int, .int], some (.object "java/lang/String")⟩ := by decide +kernel
theorem d5_53 : decode prog_25_method_3_code 53 = .ok (.invokevirtual 7, 3) := by decide +kernel
theorem d5_56 : decode prog_25_method_3_code 56 = .ok (.ldc 44, 2) := by decide +kernel
theorem d5_58 : decode prog_25_method_3_code 58 = .ok (.invokevirtual 7, 3) := by decide +kernel
theorem d5_61 : decode prog_25_method_3_code 61 = .ok (.invokevirtual 18, 3) := by decide +kernel
theorem d5_64 : decode prog_25_method_3_code 64 = .ok (.areturn, 1) := by decide +kernel
set_option maxRecDepth 65536 in
set_option maxHeartbeats 40000000 in
theorem rmq2 (l : Launch) (Z : State) (a0 : Array Value) (hw : ∀ d ∈ tables_1, d.before a0 Z = true) (ws : List Jvm.Cond) (a1 : Addr) (N : Nat) (cs : Nat → Int32) (h0 : Heap) (n0 : Nat) (Z0 : n0 ≤ h0.size) (hS : own_Str Z h0 a1 N cs) (hch : ∀ i, own_ch (cs i)) (O0 : own_Old Z n0 h0) (hST : own_ST Z) (hcw : Jvm.Lit.compactW.before a0 Z = true) (hh38 : Jvm.Lit.constHeld Z "com/example/pricefence/pricefence/io/InputException" 38) (hh44 : Jvm.Lit.constHeld Z "com/example/pricefence/pricefence/io/InputException" 44) (hn0 : n0 = h0.size) (hN4 : 40 < N) (hN : N ≤ 64) :
    MetFree l own_y5 (head1 (Jvm.Cond.code own_y5 prog_25_method_3_code 1 (some (.object "java/lang/String")) :: ws) ({ frames := 10, cells := 15, slots := 1248, locals := 143 } : Room)) (fun a U => a = #[(.ref a1)] ∧ (Z.Warmed39 U.vm ∧ own_K Z h0 U.vm) ∧ U.heap = h0) (fun _ _ _ _ _ => True) (fun _ U o U' => ∃ v L, o = .returned v ∧ Qq2 Z a1 N cs h0 n0 v U'.heap L ∧ ReturnedEndW U o U' L ({ frames := 10, cells := 15, slots := 1248, locals := 143 } : Room).cells ({ frames := 10, cells := 15, slots := 1248, locals := 143 } : Room).slots) := by
  refine MetFree.of_bodySF (plainFor_of_name pn_com_example_pricefence_pricefence_io_InputException) hisR ?_
  intro p e s m args below meth c s₁ Bd hml0 hP hK
  obtain ⟨rfl, ⟨hZ, hK0⟩, hh⟩ := hP
  have hx := Bd.exec
  have hby := Bd.bytes
  have hml : c.maxLocals = 1 := hml0
  have hown : s.vm.findClass "com/example/pricefence/pricefence/io/InputException" = some m.cls := findClass_of_methodNamed Bd.named
  have hnm := (name_of_methodNamed Bd.named Bd.method).1
  have X0 : Stand p l e ({ frames := 10, cells := 15, slots := 1248, locals := 143 } : Room) s m #[(.ref a1)] below meth c s₁ [] 0 0 := Stand.of_body Bd
  have e0 : s₁.heap = h0 := by rw [← hh, Bd.state]; rfl
  have es0 : s.heap = h0 := hh
  have N0 := Fr.nil n0
  show own_Fin p e below (Gq2 Z a1 N cs h0 n0 s) (s₁.setTop (entryFrame m #[(.ref a1)] 1))
  rw [ef_q2 m a1]
  have X0w : Stand p l e ({ frames := 10, cells := 15, slots := 1248, locals := 143 } : Room) (s.setVm s.vm) m #[(.ref a1)] below meth c s₁ [] 0 0 := X0
  have hS0 : s.Since s.vm 0 := (State.WarmedH.refl s).since 0
  have hk0 : 0 ≤ h0.size := Nat.zero_le _
  have Kz := Keep.refl h0 []
  have wS : ∀ a ∈ Bundle.stringAtoms, a.before a0 Z = true := by
    intro d hd
    simp only [Bundle.stringAtoms, List.mem_cons, List.not_mem_nil, or_false] at hd
    rcases hd with rfl | rfl | rfl | rfl | rfl | rfl | rfl
    · exact (own_h hw 7 rfl)
    · exact (own_h hw 6 rfl)
    · exact (own_h hw 19 rfl)
    · exact (own_h hw 20 rfl)
    · exact (own_h hw 21 rfl)
    · exact (own_h hw 22 rfl)
    · exact (own_h hw 23 rfl)
  obtain ⟨Ts0, IBq, hTs⟩ := own_K.ib hK0
  have E_a1 := hS.1
  refine own_gk (XS.aloadN X0w.here hx rfl (hb hby d5_0) rfl rfl) ?_
  obtain ⟨_, T500, Lc500, X500, hQ500, st500⟩ := own_callV X0w hx hZ E_a1 hown (own_h hw 30 rfl) (own_h hw 31 rfl) (notFace_of_selects (args := #[]) (mvT hZ (own_h hw 33 rfl))) (own_h hw 33 rfl) (own_h hw 32 rfl) (own_h hw 7 rfl) (own_h hw 34 rfl) (by decide) (rmlen l Z a0 hw [] a1 N cs h0 n0 Z0 hS O0 hST (by omega)) (W := 0) (by decide) (by decide) (g := (mkF m 1 #[rv a1] [(.ref a1)])) rfl (by rw [hml]; rfl) (argsL := []) (rest := []) (lenOf pd__28__29_I rfl) rfl (Nat.le_of_eq rfl) (hb hby d5_1) rfl e0 (by decide) (by decide)
  obtain ⟨rfl, Nq500, e500⟩ := hQ500
  refine own_go st500 ?_
  have N500 := Fr.app N0 Nq500
  refine own_gk (XS.bipush X500.here hx rfl (hb hby d5_4)) ?_
  refine own_gk (XS.icmpYes X500.here hx rfl (pc0 := 6) (pc' := 34) rfl (hb hby d5_6) rfl (tlt (show (40 : Int32) < (Int32.ofNat (N)) from ((own_ltN (a := 40) (b := N) (by omega) (by omega)).mpr (by omega)))).2.2.1 (by decide) (by decide)) ?_
  obtain ⟨T501, h501, X501, e501, E501, A501, D501, U501, st501⟩ := newO X500 hx hZ hown (own_h hw 41 rfl) (own_h hw 42 rfl) (own_h hw 43 rfl) e500 (g := (mkF m 34 #[rv a1] [])) rfl (hb hby d5_34) (by decide) (by decide)
  obtain ⟨b501, g501⟩ : ∃ z, z = h0.size := ⟨_, rfl⟩
  rw [← g501] at A501 D501 U501 st501
  refine own_by st501 ?_
  have ne_a1_b501 : a1 ≠ b501 := Nat.ne_of_lt (Nat.lt_of_lt_of_eq E_a1.lt g501.symm)
  have Od501 := O0.ext E501
  have E_a1_501 := E_a1.ext E501
  have g_b501 : n0 ≤ b501 := Nat.le_trans Z0 (Nat.le_of_eq g501.symm)
  have sz_b501 : h0.size ≤ b501 := Nat.le_trans Kz.1 (Nat.le_of_eq g501.symm)
  have K501 := Kz.ext E501
  have Z501 : n0 ≤ h501.size := Nat.le_trans Z0 E501.1
  have hk501 : 0 ≤ h501.size := Nat.le_trans hk0 E501.1
  have E_b501 := A501
  have F_value_b501 : Fld Z h501 b501 "java/lang/AbstractStringBuilder" "value" "[B" .null := D501 (Or.inl (own_h hw 56 rfl)) (ty := (.array .byte)) (by decide)
  have F_coder_b501 : Fld Z h501 b501 "java/lang/AbstractStringBuilder" "coder" "B" (.int (0 : Int32)) := D501 (Or.inl (own_h hw 58 rfl)) (ty := .byte) (by decide)
  have F_count_b501 : Fld Z h501 b501 "java/lang/AbstractStringBuilder" "count" "I" (.int (0 : Int32)) := D501 (Or.inl (own_h hw 72 rfl)) (ty := .int) (by decide)
  have F_maybeLatin1_b501 : Fld Z h501 b501 "java/lang/AbstractStringBuilder" "maybeLatin1" "Z" (.int (0 : Int32)) := D501 (Or.inl (own_h hw 262 rfl)) (ty := .boolean) (by decide)
  show own_Fin _ _ _ _ (T501.setTop (mkF m 37 #[rv a1] [(.ref b501)]))
  refine own_gk (XS.dup X501.here hx rfl (hb hby d5_37) rfl rfl) ?_
  obtain ⟨_, T502, Lc502, X502, hQ502, st502⟩ := own_callI X501 hx hZ rfl hown (own_h hw 44 rfl) (own_h hw 45 rfl) (own_h hw 43 rfl) (own_h hw 46 rfl) (by decide) (rmsbi l Z a0 hw [] b501 h501 n0 Z501 E_b501 F_value_b501 F_count_b501 F_coder_b501 F_maybeLatin1_b501 g_b501 Od501 hST) (W := 1) (by decide) (by decide) (g := (mkF m 38 #[rv a1] [(.ref b501), (.ref b501)])) rfl (by rw [hml]; rfl) (argsL := []) (rest := [(.ref b501)]) (lenOf pd__28__29_V rfl) rfl (Nat.le_of_eq rfl) (hb hby d5_38) rfl e501 (by decide) (by decide)
  refine own_go st502 ?_
  obtain ⟨b_502, kb_502, rfl, Nq502, K502, g_b_502, sb_b_502, r502_0, r502_1, r502_2, r502_3, r502_4, r502_5⟩ := hQ502
  have ne_a1_b_502 : a1 ≠ b_502 := Nat.ne_of_lt (Nat.lt_of_lt_of_le E_a1_501.lt sb_b_502)
  have ne_b501_b_502 : b501 ≠ b_502 := Nat.ne_of_lt (Nat.lt_of_lt_of_le E_b501.lt sb_b_502)
  have sz_b_502 : h0.size ≤ b_502 := Nat.le_trans K501.1 sb_b_502
  have Od502 := Od501.keep K502 (allS g_b501 all0)
  have E_a1_502 := E_a1_501.keep K502
  have E_b501_502 := E_b501.keep K502
  have Z502 : n0 ≤ T502.heap.size := Nat.le_trans Z501 K502.1
  have hk502 : 0 ≤ T502.heap.size := Nat.le_trans hk501 K502.1
  have Kt502 := K501.trans K502 (allS (P := fun x => x ∈ _ ∨ _ ≤ x) (Or.inr sz_b501) all0)
  have N502 := Fr.app N500 Nq502
  obtain ⟨a503, T503, h503, k503, b503, kc503, X503, e503, E503, hS503, hk503, hZ503, hown503, Ex503, Fc503, Fv503, Va503, la503, lb503, IB503, Li503, st503⟩ := ldcSVL (s := s) (vm0 := s.vm) X502 hx hZ hown (own_h hw 59 rfl) wS rfl hS0 hk502 (show Fr s.heap.size _ by rw [es0, ← hn0]; exact N502) (fun b cl q => by rw [es0]; exact O0.2.2 b cl q) IBq (fun q => absurd (hTs _ q) (by decide)) hh38 hcw (vs := [.int (39 : Int32)]) (z := (1 : Int32)) ⟨by decide, by decide⟩ (by decide) (by decide) (g := (mkF m 41 #[rv a1] [(.ref b501)])) rfl (hb hby d5_41) (n := 4) (by decide) (by decide) (by decide) (by decide)
  refine own_by st503 ?_
  have Od503 := Od502.ext E503
  have E_a1_503 := E_a1_502.ext E503
  have r502_0_503 := r502_0.ext E503
  have r502_1_503 := r502_1.ext E503
  have r502_2_503 := r502_2.ext E503
  have r502_3_503 := r502_3.ext E503
  have r502_4_503 := r502_4.ext E503
  have r502_5_503 := r502_5.ext E503
  have Z503 : n0 ≤ h503.size := Nat.le_trans Z502 E503.1
  have K503 := Kt502.ext E503
  have Vr503 : Arv Z h503 b503 kc503 .byte (1 : Int32) (List.map Value.int (own_R (own_lo own_qs) 1)) (.int (0 : Int32)) := Va503
  show own_Fin _ _ _ _ (T503.setTop (mkF m 43 #[rv a1] [(.ref a503), (.ref b501)]))
  have nq504 : a1 ≠ b_502 := ne_a1_b_502
  have nq505 : a503 ≠ b_502 := (Exa.neArv Ex503 r502_5_503 (own_h hw 6 rfl))
  have nq506 : b503 ≠ b_502 := (arv_ne Vr503 r502_5_503 (Or.inl (by decide)))
  obtain ⟨_, T507, Lc507, X507, hQ507, st507⟩ := own_callV X503 hx hZ503 r502_0_503 hown503 (own_h hw 60 rfl) (own_h hw 61 rfl) (notFace_of_selects (args := #[]) (mvT hZ503 (own_h hw 63 rfl))) (own_h hw 63 rfl) (own_h hw 62 rfl) (own_h hw 43 rfl) (own_h hw 64 rfl) (by decide) (rmsap_00 l Z a0 hw [] b501 b_502 kb_502 16 0 ((fun _ => (0 : Int32))) own_qs a503 b503 kc503 1 own_qs h503 n0 Z503 r502_0_503 r502_1_503 r502_2_503 r502_3_503 r502_4_503 r502_5_503 g_b501 g_b_502 Ex503 Fv503 Fc503 Vr503 (arv_ne r502_5_503 Vr503 (Or.inl (by decide))) Od503 hST (fun j hj => absurd hj (Nat.not_lt_zero _)) own_qsc (own_qsl 0) own_qsc (own_qsl 1) (by decide) (by decide) (by decide) (by omega) (by decide)) (W := 0) (by decide) (by decide) (g := (mkF m 43 #[rv a1] [(.ref a503), (.ref b501)])) rfl (by rw [hml]; rfl) (argsL := [(.ref a503)]) (rest := []) (lenOf pd__28_Ljava_2f_lang_2f_String_3b__29_Ljava_2f_lang_2f_StringBuilder_3b_ rfl) rfl (Nat.le_of_eq rfl) (hb hby d5_43) rfl e503 (by decide) (by decide)
  refine own_go st507 ?_
  obtain ⟨vb_507, kb_507, fb_507, rfl, Nq507, K507, r507_0, r507_1, r507_2, r507_3, r507_4, r507_5, r507_6, r507_7, r507_8⟩ := hQ507
  have Od507 := Od503.keep K507 (allS g_b501 (allS g_b_502 all0))
  have E_a1_507 := E_a1_503.keep K507
  have r502_0_507 := r502_0_503.keep K507
  have Ex503_507 := Ex503.keep K507
  have Fc503_507 := Fc503.keep K507 (ninS (Exa.ne Ex503 r502_0_503 (by decide)) (ninS (Exa.neArv Ex503 r502_5_503 (own_h hw 6 rfl)) nin0))
  have Fv503_507 := Fv503.keep K507 (ninS (Exa.ne Ex503 r502_0_503 (by decide)) (ninS (Exa.neArv Ex503 r502_5_503 (own_h hw 6 rfl)) nin0))
  have Vr503_507 := Vr503.keep K507 (ninS (Ne.symm (Exa.neArv r502_0_503 Vr503 (own_h hw 42 rfl))) (ninS (arv_ne Vr503 r502_5_503 (Or.inl (by decide))) nin0))
  have Z507 : n0 ≤ T507.heap.size := Nat.le_trans Z503 K507.1
  have hk507 : k503 ≤ T507.heap.size := Nat.le_trans hk503 K507.1
  have Kt507 := K503.trans K507 (allS (P := fun x => x ∈ _ ∨ _ ≤ x) (Or.inr sz_b501) (allS (P := fun x => x ∈ _ ∨ _ ≤ x) (Or.inr sz_b_502) all0))
  have g_vb_507 := r507_7
  have sz_vb_507 : h0.size ≤ vb_507 := own_szb r507_8 sz_b_502 K503.1
  have ne_a1_vb_507 : a1 ≠ vb_507 := own_nev r507_8 nq504 E_a1_503.lt
  have ne_a503_vb_507 : a503 ≠ vb_507 := own_nev r507_8 nq505 Ex503.lt
  have ne_b503_vb_507 : b503 ≠ vb_507 := own_nev r507_8 nq506 Vr503.lt
  have Fn508 : Fld Z T507.heap b501 "java/lang/AbstractStringBuilder" "count" "I" (.int (1 : Int32)) := r507_2
  have Vn508 : Arv Z T507.heap vb_507 kb_507 .byte (16 : Int32) (List.map Value.int (own_R fb_507 16)) (.int (0 : Int32)) := r507_5
  have N507 := Fr.app N502 Nq507
  refine own_gk (XS.aloadN X507.here hx rfl (hb hby d5_46) rfl rfl) ?_
  refine own_gk (XS.iconst X507.here hx rfl (hb hby d5_47)) ?_
  refine own_gk (XS.bipush X507.here hx rfl (hb hby d5_48)) ?_
  obtain ⟨_, T509, Lc509, X509, hQ509, st509⟩ := own_callV X507 hx hZ503 E_a1_507 hown503 (own_h hw 195 rfl) (own_h hw 196 rfl) (notFace_of_selects (args := #[]) (mvT hZ503 (own_h hw 198 rfl))) (own_h hw 198 rfl) (own_h hw 197 rfl) (own_h hw 7 rfl) (own_h hw 199 rfl) (by decide) (rmsub l Z a0 hw [] a1 N cs T507.heap n0 Z507 (hS.keep0 Kt507) hN hN4 hch Od507 hST) (W := 1) (by decide) (by decide) (g := (mkF m 50 #[rv a1] [(.int (40 : Int32)), (.int (0 : Int32)), (.ref a1), (.ref b501)])) rfl (by rw [hml]; rfl) (argsL := [(.int (0 : Int32)), (.int (40 : Int32))]) (rest := [(.ref b501)]) (lenOf pd__28_II_29_Ljava_2f_lang_2f_String_3b_ rfl) rfl (Nat.le_of_eq rfl) (hb hby d5_50) rfl rfl (by decide) (by decide)
  refine own_go st509 ?_
  obtain ⟨r_509, rfl, Nq509, K509, g_r_509, sb_r_509, r509_0⟩ := hQ509
  have ne_a1_r_509 : a1 ≠ r_509 := Nat.ne_of_lt (Nat.lt_of_lt_of_le E_a1_507.lt sb_r_509)
  have ne_b501_r_509 : b501 ≠ r_509 := Nat.ne_of_lt (Nat.lt_of_lt_of_le r507_0.lt sb_r_509)
  have ne_a503_r_509 : a503 ≠ r_509 := Nat.ne_of_lt (Nat.lt_of_lt_of_le Ex503_507.lt sb_r_509)
  have ne_b503_r_509 : b503 ≠ r_509 := Nat.ne_of_lt (Nat.lt_of_lt_of_le Vr503_507.lt sb_r_509)
  have ne_vb_507_r_509 : vb_507 ≠ r_509 := Nat.ne_of_lt (Nat.lt_of_lt_of_le Vn508.lt sb_r_509)
  have sz_r_509 : h0.size ≤ r_509 := Nat.le_trans Kt507.1 sb_r_509
  have Od509 := Od507.keep K509 all0
  have E_a1_509 := E_a1_507.keep K509
  have r507_0_509 := r507_0.keep K509
  have Ex503_509 := Ex503_507.keep K509
  have Fc503_509 := Fc503_507.keep K509 nin0
  have Fv503_509 := Fv503_507.keep K509 nin0
  have Vr503_509 := Vr503_507.keep K509 nin0
  have r507_1_509 := r507_1.keep K509 nin0
  have Fn508_509 := Fn508.keep K509 nin0
  have r507_3_509 := r507_3.keep K509 nin0
  have r507_4_509 := r507_4.keep K509 nin0
  have Vn508_509 := Vn508.keep K509 nin0
  have Z509 : n0 ≤ T509.heap.size := Nat.le_trans Z507 K509.1
  have hk509 : k503 ≤ T509.heap.size := Nat.le_trans hk507 K509.1
  have Kt509 := Kt507.trans K509 all0
  have N509 := Fr.app N507 Nq509
  show own_Fin _ _ _ _ (T509.setTop (mkF m 53 #[rv a1] [(.ref r_509), (.ref b501)]))
  obtain ⟨E_s, v_s, kq_s, Fv_s, ⟨FcL, hal, VqL⟩ | ⟨FcU, VqU⟩⟩ := r509_0
  · have ne_vs : v_s ≠ vb_507 := arv_ne VqL Vn508_509 (Or.inl (by decide))
    have nq510 : a1 ≠ vb_507 := ne_a1_vb_507
    have nq511 : a503 ≠ vb_507 := ne_a503_vb_507
    have nq512 : b503 ≠ vb_507 := ne_b503_vb_507
    have nq513 : r_509 ≠ vb_507 := (Ne.symm ne_vb_507_r_509)
    have nq514 : v_s ≠ vb_507 := ne_vs
    obtain ⟨_, T515, Lc515, X515, hQ515, st515⟩ := own_callV X509 hx hZ503 r507_0_509 hown503 (own_h hw 60 rfl) (own_h hw 61 rfl) (notFace_of_selects (args := #[]) (mvT hZ503 (own_h hw 63 rfl))) (own_h hw 63 rfl) (own_h hw 62 rfl) (own_h hw 43 rfl) (own_h hw 64 rfl) (by decide) (rmsap_00 l Z a0 hw [] b501 vb_507 kb_507 16 1 fb_507 (own_app own_qs 0 own_qs) r_509 v_s kq_s 40 cs T509.heap n0 Z509 r507_0_509 r507_1_509 Fn508_509 r507_3_509 r507_4_509 Vn508_509 g_b501 g_vb_507 E_s Fv_s FcL VqL (Ne.symm ne_vs) Od509 hST r507_6 (own_chapp own_qsc own_qsc) (own_clapp (own_qsl 0) (own_qsl 1)) hch hal (by decide) (by decide) (by decide) (by omega) (by decide)) (W := 0) (by decide) (by decide) (g := (mkF m 53 #[rv a1] [(.ref r_509), (.ref b501)])) rfl (by rw [hml]; rfl) (argsL := [(.ref r_509)]) (rest := []) (lenOf pd__28_Ljava_2f_lang_2f_String_3b__29_Ljava_2f_lang_2f_StringBuilder_3b_ rfl) rfl (Nat.le_of_eq rfl) (hb hby d5_53) rfl rfl (by decide) (by decide)
    refine own_go st515 ?_
    obtain ⟨vb_515, kb_515, fb_515, rfl, Nq515, K515, r515_0, r515_1, r515_2, r515_3, r515_4, r515_5, r515_6, r515_7, r515_8⟩ := hQ515
    have Od515 := Od509.keep K515 (allS g_b501 (allS g_vb_507 all0))
    have E_a1_515 := E_a1_509.keep K515
    have r507_0_515 := r507_0_509.keep K515
    have Ex503_515 := Ex503_509.keep K515
    have Fc503_515 := Fc503_509.keep K515 (ninS (Exa.ne Ex503_509 r507_0_509 (by decide)) (ninS ne_a503_vb_507 nin0))
    have Fv503_515 := Fv503_509.keep K515 (ninS (Exa.ne Ex503_509 r507_0_509 (by decide)) (ninS ne_a503_vb_507 nin0))
    have Vr503_515 := Vr503_509.keep K515 (ninS (Ne.symm (Exa.neArv r507_0_509 Vr503_509 (own_h hw 42 rfl))) (ninS ne_b503_vb_507 nin0))
    have E_s_515 := E_s.keep K515
    have Fv_s_515 := Fv_s.keep K515 (ninS (Ne.symm ne_b501_r_509) (ninS (Ne.symm ne_vb_507_r_509) nin0))
    have FcL_515 := FcL.keep K515 (ninS (Ne.symm ne_b501_r_509) (ninS (Ne.symm ne_vb_507_r_509) nin0))
    have VqL_515 := VqL.keep K515 (ninS (Ne.symm (Exa.neArv r507_0_509 VqL (own_h hw 42 rfl))) (ninS ne_vs nin0))
    have Z515 : n0 ≤ T515.heap.size := Nat.le_trans Z509 K515.1
    have hk515 : k503 ≤ T515.heap.size := Nat.le_trans hk509 K515.1
    have Kt515 := Kt509.trans K515 (allS (P := fun x => x ∈ _ ∨ _ ≤ x) (Or.inr sz_b501) (allS (P := fun x => x ∈ _ ∨ _ ≤ x) (Or.inr sz_vb_507) all0))
    have g_vb_515 := r515_7
    have sz_vb_515 : h0.size ≤ vb_515 := own_szb r515_8 sz_vb_507 Kt509.1
    have ne_a1_vb_515 : a1 ≠ vb_515 := own_nev r515_8 nq510 E_a1_509.lt
    have ne_a503_vb_515 : a503 ≠ vb_515 := own_nev r515_8 nq511 Ex503_509.lt
    have ne_b503_vb_515 : b503 ≠ vb_515 := own_nev r515_8 nq512 Vr503_509.lt
    have ne_r_509_vb_515 : r_509 ≠ vb_515 := own_nev r515_8 nq513 E_s.lt
    have ne_v_s_vb_515 : v_s ≠ vb_515 := own_nev r515_8 nq514 VqL.lt
    have Fn516 : Fld Z T515.heap b501 "java/lang/AbstractStringBuilder" "count" "I" (.int (41 : Int32)) := r515_2
    have Vn516 : Arv Z T515.heap vb_515 kb_515 .byte (41 : Int32) (List.map Value.int (own_R fb_515 41)) (.int (0 : Int32)) := r515_5
    have N515 := Fr.app N509 Nq515
    obtain ⟨a517, T517, h517, k517, b517, kc517, X517, e517, E517, hS517, hk517, hZ517, hown517, Ex517, Fc517, Fv517, Va517, la517, lb517, IB517, Li517, st517⟩ := ldcSVL (s := s) (vm0 := T503.vm) X515 hx hZ503 hown503 (own_h hw 215 rfl) wS rfl hS503 hk515 (show Fr s.heap.size _ by rw [es0, ← hn0]; exact N515) (fun b cl q => by rw [es0]; exact O0.2.2 b cl q) IB503 (fun q => (List.mem_cons.mp q).elim (fun q => absurd q (by decide)) (fun q => absurd (hTs _ q) (by decide))) hh44 hcw (vs := [.int (46 : Int32), .int (46 : Int32), .int (46 : Int32), .int (39 : Int32)]) (z := (4 : Int32)) ⟨by decide, by decide⟩ (by decide) (by decide) (g := (mkF m 56 #[rv a1] [(.ref b501)])) rfl (hb hby d5_56) (n := 16) (by decide) (by decide) (by decide) (by decide)
    refine own_by st517 ?_
    have Od517 := Od515.ext E517
    have E_a1_517 := E_a1_515.ext E517
    have r515_0_517 := r515_0.ext E517
    have Ex503_517 := Ex503_515.ext E517
    have Fc503_517 := Fc503_515.ext E517
    have Fv503_517 := Fv503_515.ext E517
    have Vr503_517 := Vr503_515.ext E517
    have E_s_517 := E_s_515.ext E517
    have Fv_s_517 := Fv_s_515.ext E517
    have FcL_517 := FcL_515.ext E517
    have VqL_517 := VqL_515.ext E517
    have r515_1_517 := r515_1.ext E517
    have Fn516_517 := Fn516.ext E517
    have r515_3_517 := r515_3.ext E517
    have r515_4_517 := r515_4.ext E517
    have Vn516_517 := Vn516.ext E517
    have Z517 : n0 ≤ h517.size := Nat.le_trans Z515 E517.1
    have K517 := Kt515.ext E517
    have Vr517 : Arv Z h517 b517 kc517 .byte (4 : Int32) (List.map Value.int (own_R (own_lo own_dots) 4)) (.int (0 : Int32)) := Va517
    show own_Fin _ _ _ _ (T517.setTop (mkF m 58 #[rv a1] [(.ref a517), (.ref b501)]))
    have ne_vb_515_b517 : vb_515 ≠ b517 := arv_ne Vn516_517 Vr517 (Or.inl (by decide))
    have nq518 : a1 ≠ vb_515 := ne_a1_vb_515
    have nq519 : a503 ≠ vb_515 := ne_a503_vb_515
    have nq520 : b503 ≠ vb_515 := ne_b503_vb_515
    have nq521 : r_509 ≠ vb_515 := ne_r_509_vb_515
    have nq522 : v_s ≠ vb_515 := ne_v_s_vb_515
    have nq523 : a517 ≠ vb_515 := (Exa.neArv Ex517 Vn516_517 (own_h hw 6 rfl))
    have nq524 : b517 ≠ vb_515 := (Ne.symm ne_vb_515_b517)
    obtain ⟨_, T525, Lc525, X525, hQ525, st525⟩ := own_callV X517 hx hZ517 r515_0_517 hown517 (own_h hw 60 rfl) (own_h hw 61 rfl) (notFace_of_selects (args := #[]) (mvT hZ517 (own_h hw 63 rfl))) (own_h hw 63 rfl) (own_h hw 62 rfl) (own_h hw 43 rfl) (own_h hw 64 rfl) (by decide) (rmsap_00 l Z a0 hw [] b501 vb_515 kb_515 41 41 fb_515 (own_app (own_app own_qs 0 own_qs) 1 cs) a517 b517 kc517 4 own_dots h517 n0 Z517 r515_0_517 r515_1_517 Fn516_517 r515_3_517 r515_4_517 Vn516_517 g_b501 g_vb_515 Ex517 Fv517 Fc517 Vr517 ne_vb_515_b517 Od517 hST r515_6 (own_chapp (own_chapp own_qsc own_qsc) hch) (own_clapp (own_clapp (own_qsl 0) (own_qsl 1)) hal) own_dtc (own_dtl 4) (by decide) (by decide) (by decide) (by omega) (by decide)) (W := 0) (by decide) (by decide) (g := (mkF m 58 #[rv a1] [(.ref a517), (.ref b501)])) rfl (by rw [hml]; rfl) (argsL := [(.ref a517)]) (rest := []) (lenOf pd__28_Ljava_2f_lang_2f_String_3b__29_Ljava_2f_lang_2f_StringBuilder_3b_ rfl) rfl (Nat.le_of_eq rfl) (hb hby d5_58) rfl e517 (by decide) (by decide)
    refine own_go st525 ?_
    obtain ⟨vb_525, kb_525, fb_525, rfl, Nq525, K525, r525_0, r525_1, r525_2, r525_3, r525_4, r525_5, r525_6, r525_7, r525_8⟩ := hQ525
    have Od525 := Od517.keep K525 (allS g_b501 (allS g_vb_515 all0))
    have E_a1_525 := E_a1_517.keep K525
    have r515_0_525 := r515_0_517.keep K525
    have Ex503_525 := Ex503_517.keep K525
    have Fc503_525 := Fc503_517.keep K525 (ninS (Exa.ne Ex503_517 r515_0_517 (by decide)) (ninS ne_a503_vb_515 nin0))
    have Fv503_525 := Fv503_517.keep K525 (ninS (Exa.ne Ex503_517 r515_0_517 (by decide)) (ninS ne_a503_vb_515 nin0))
    have Vr503_525 := Vr503_517.keep K525 (ninS (Ne.symm (Exa.neArv r515_0_517 Vr503_517 (own_h hw 42 rfl))) (ninS ne_b503_vb_515 nin0))
    have E_s_525 := E_s_517.keep K525
    have Fv_s_525 := Fv_s_517.keep K525 (ninS (Ne.symm ne_b501_r_509) (ninS ne_r_509_vb_515 nin0))
    have FcL_525 := FcL_517.keep K525 (ninS (Ne.symm ne_b501_r_509) (ninS ne_r_509_vb_515 nin0))
    have VqL_525 := VqL_517.keep K525 (ninS (Ne.symm (Exa.neArv r515_0_517 VqL_517 (own_h hw 42 rfl))) (ninS ne_v_s_vb_515 nin0))
    have Ex517_525 := Ex517.keep K525
    have Fc517_525 := Fc517.keep K525 (ninS (Exa.ne Ex517 r515_0_517 (by decide)) (ninS (Exa.neArv Ex517 Vn516_517 (own_h hw 6 rfl)) nin0))
    have Fv517_525 := Fv517.keep K525 (ninS (Exa.ne Ex517 r515_0_517 (by decide)) (ninS (Exa.neArv Ex517 Vn516_517 (own_h hw 6 rfl)) nin0))
    have Vr517_525 := Vr517.keep K525 (ninS (Ne.symm (Exa.neArv r515_0_517 Vr517 (own_h hw 42 rfl))) (ninS (Ne.symm ne_vb_515_b517) nin0))
    have Z525 : n0 ≤ T525.heap.size := Nat.le_trans Z517 K525.1
    have hk525 : k517 ≤ T525.heap.size := Nat.le_trans hk517 K525.1
    have Kt525 := K517.trans K525 (allS (P := fun x => x ∈ _ ∨ _ ≤ x) (Or.inr sz_b501) (allS (P := fun x => x ∈ _ ∨ _ ≤ x) (Or.inr sz_vb_515) all0))
    have g_vb_525 := r525_7
    have sz_vb_525 : h0.size ≤ vb_525 := own_szb r525_8 sz_vb_515 K517.1
    have ne_a1_vb_525 : a1 ≠ vb_525 := own_nev r525_8 nq518 E_a1_517.lt
    have ne_a503_vb_525 : a503 ≠ vb_525 := own_nev r525_8 nq519 Ex503_517.lt
    have ne_b503_vb_525 : b503 ≠ vb_525 := own_nev r525_8 nq520 Vr503_517.lt
    have ne_r_509_vb_525 : r_509 ≠ vb_525 := own_nev r525_8 nq521 E_s_517.lt
    have ne_v_s_vb_525 : v_s ≠ vb_525 := own_nev r525_8 nq522 VqL_517.lt
    have ne_a517_vb_525 : a517 ≠ vb_525 := own_nev r525_8 nq523 Ex517.lt
    have ne_b517_vb_525 : b517 ≠ vb_525 := own_nev r525_8 nq524 Vr517.lt
    have N525 := Fr.app N515 Nq525
    obtain ⟨_, T526, Lc526, X526, hQ526, st526⟩ := own_callV X525 hx hZ517 r525_0 hown517 (own_h hw 98 rfl) (own_h hw 99 rfl) (notFace_of_selects (args := #[]) (mvT hZ517 (own_h hw 101 rfl))) (own_h hw 101 rfl) (own_h hw 100 rfl) (own_h hw 43 rfl) (own_h hw 102 rfl) (by decide) (rmts_0 l Z a0 hw [] b501 vb_525 kb_525 (own_cap 41 (41 + 4)) 45 fb_525 (own_app (own_app (own_app own_qs 0 own_qs) 1 cs) 41 own_dots) T525.heap n0 Z525 r525_0 r525_1 r525_2 r525_3 r525_4 r525_5 r525_6 (by decide) (by decide) (by omega) Od525 hST (own_clapp (own_clapp (own_clapp (own_qsl 0) (own_qsl 1)) hal) (own_dtl 4))) (W := 0) (by decide) (by decide) (g := (mkF m 61 #[rv a1] [(.ref b501)])) rfl (by rw [hml]; rfl) (argsL := []) (rest := []) (lenOf pd__28__29_Ljava_2f_lang_2f_String_3b_ rfl) rfl (Nat.le_of_eq rfl) (hb hby d5_61) rfl rfl (by decide) (by decide)
    refine own_go st526 ?_
    obtain ⟨r_526, rfl, Nq526, K526, g_r_526, sb_r_526, r526_0⟩ := hQ526
    have ne_a1_r_526 : a1 ≠ r_526 := Nat.ne_of_lt (Nat.lt_of_lt_of_le E_a1_525.lt sb_r_526)
    have ne_b501_r_526 : b501 ≠ r_526 := Nat.ne_of_lt (Nat.lt_of_lt_of_le r525_0.lt sb_r_526)
    have ne_a503_r_526 : a503 ≠ r_526 := Nat.ne_of_lt (Nat.lt_of_lt_of_le Ex503_525.lt sb_r_526)
    have ne_b503_r_526 : b503 ≠ r_526 := Nat.ne_of_lt (Nat.lt_of_lt_of_le Vr503_525.lt sb_r_526)
    have ne_r_509_r_526 : r_509 ≠ r_526 := Nat.ne_of_lt (Nat.lt_of_lt_of_le E_s_525.lt sb_r_526)
    have ne_v_s_r_526 : v_s ≠ r_526 := Nat.ne_of_lt (Nat.lt_of_lt_of_le VqL_525.lt sb_r_526)
    have ne_a517_r_526 : a517 ≠ r_526 := Nat.ne_of_lt (Nat.lt_of_lt_of_le Ex517_525.lt sb_r_526)
    have ne_b517_r_526 : b517 ≠ r_526 := Nat.ne_of_lt (Nat.lt_of_lt_of_le Vr517_525.lt sb_r_526)
    have ne_vb_525_r_526 : vb_525 ≠ r_526 := Nat.ne_of_lt (Nat.lt_of_lt_of_le r525_5.lt sb_r_526)
    have sz_r_526 : h0.size ≤ r_526 := Nat.le_trans Kt525.1 sb_r_526
    have Od526 := Od525.keep K526 all0
    have E_a1_526 := E_a1_525.keep K526
    have r525_0_526 := r525_0.keep K526
    have Ex503_526 := Ex503_525.keep K526
    have Fc503_526 := Fc503_525.keep K526 nin0
    have Fv503_526 := Fv503_525.keep K526 nin0
    have Vr503_526 := Vr503_525.keep K526 nin0
    have E_s_526 := E_s_525.keep K526
    have Fv_s_526 := Fv_s_525.keep K526 nin0
    have FcL_526 := FcL_525.keep K526 nin0
    have VqL_526 := VqL_525.keep K526 nin0
    have Ex517_526 := Ex517_525.keep K526
    have Fc517_526 := Fc517_525.keep K526 nin0
    have Fv517_526 := Fv517_525.keep K526 nin0
    have Vr517_526 := Vr517_525.keep K526 nin0
    have r525_1_526 := r525_1.keep K526 nin0
    have r525_2_526 := r525_2.keep K526 nin0
    have r525_3_526 := r525_3.keep K526 nin0
    have r525_4_526 := r525_4.keep K526 nin0
    have r525_5_526 := r525_5.keep K526 nin0
    have Z526 : n0 ≤ T526.heap.size := Nat.le_trans Z525 K526.1
    have hk526 : k517 ≤ T526.heap.size := Nat.le_trans hk525 K526.1
    have Kt526 := Kt525.trans K526 all0
    have N526 := Fr.app N525 Nq526
    obtain ⟨fs527, hr527, hrun527, hended527, hRW527⟩ := X526.leaveW (s := s) hS517 (n := k517) hk526 (v := some (.ref r_526)) (fun h => by rw [Bd.returns] at h; cases h)
    refine own_done (retOut X526 hx Bd.returns rfl (Or.inr (Or.inr (Or.inr (Or.inr ⟨rfl, rfl, rfl⟩)))) (hb hby d5_64) hr527) hrun527 hended527 ⟨_, _, rfl, ?_, hRW527.1, hRW527.2.1, hRW527.2.2.1, hRW527.2.2.2.mono (by decide) (by decide)⟩
    show Qq2 Z a1 N cs h0 n0 _ T526.heap _
    exact ⟨r_526, rfl, N526, Kt526, g_r_526, sz_r_526, r526_0⟩
  · have ne_vs : v_s ≠ vb_507 := arv_ne VqU Vn508_509 (Or.inl (by decide))
    have nq528 : a1 ≠ vb_507 := ne_a1_vb_507
    have nq529 : a503 ≠ vb_507 := ne_a503_vb_507
    have nq530 : b503 ≠ vb_507 := ne_b503_vb_507
    have nq531 : r_509 ≠ vb_507 := (Ne.symm ne_vb_507_r_509)
    have nq532 : v_s ≠ vb_507 := ne_vs
    obtain ⟨_, T533, Lc533, X533, hQ533, st533⟩ := own_callV X509 hx hZ503 r507_0_509 hown503 (own_h hw 60 rfl) (own_h hw 61 rfl) (notFace_of_selects (args := #[]) (mvT hZ503 (own_h hw 63 rfl))) (own_h hw 63 rfl) (own_h hw 62 rfl) (own_h hw 43 rfl) (own_h hw 64 rfl) (by decide) (rmsap_01 l Z a0 hw [] b501 vb_507 kb_507 16 1 fb_507 (own_app own_qs 0 own_qs) r_509 v_s kq_s 40 cs T509.heap n0 Z509 r507_0_509 r507_1_509 Fn508_509 r507_3_509 r507_4_509 Vn508_509 g_b501 g_vb_507 E_s Fv_s FcU VqU (Ne.symm ne_vs) Od509 hST r507_6 (own_chapp own_qsc own_qsc) (own_clapp (own_qsl 0) (own_qsl 1)) hch (by decide) (by decide) (by decide) (by omega) (by decide)) (W := 0) (by decide) (by decide) (g := (mkF m 53 #[rv a1] [(.ref r_509), (.ref b501)])) rfl (by rw [hml]; rfl) (argsL := [(.ref r_509)]) (rest := []) (lenOf pd__28_Ljava_2f_lang_2f_String_3b__29_Ljava_2f_lang_2f_StringBuilder_3b_ rfl) rfl (Nat.le_of_eq rfl) (hb hby d5_53) rfl rfl (by decide) (by decide)
    refine own_go st533 ?_
    obtain ⟨vb_533, kb_533, fb_533, rfl, Nq533, K533, r533_0, r533_1, r533_2, r533_3, r533_4, r533_5, r533_6, r533_7, r533_8⟩ := hQ533
    have Od533 := Od509.keep K533 (allS g_b501 (allS g_vb_507 all0))
    have E_a1_533 := E_a1_509.keep K533
    have r507_0_533 := r507_0_509.keep K533
    have Ex503_533 := Ex503_509.keep K533
    have Fc503_533 := Fc503_509.keep K533 (ninS (Exa.ne Ex503_509 r507_0_509 (by decide)) (ninS ne_a503_vb_507 nin0))
    have Fv503_533 := Fv503_509.keep K533 (ninS (Exa.ne Ex503_509 r507_0_509 (by decide)) (ninS ne_a503_vb_507 nin0))
    have Vr503_533 := Vr503_509.keep K533 (ninS (Ne.symm (Exa.neArv r507_0_509 Vr503_509 (own_h hw 42 rfl))) (ninS ne_b503_vb_507 nin0))
    have E_s_533 := E_s.keep K533
    have Fv_s_533 := Fv_s.keep K533 (ninS (Ne.symm ne_b501_r_509) (ninS (Ne.symm ne_vb_507_r_509) nin0))
    have FcU_533 := FcU.keep K533 (ninS (Ne.symm ne_b501_r_509) (ninS (Ne.symm ne_vb_507_r_509) nin0))
    have VqU_533 := VqU.keep K533 (ninS (Ne.symm (Exa.neArv r507_0_509 VqU (own_h hw 42 rfl))) (ninS ne_vs nin0))
    have Z533 : n0 ≤ T533.heap.size := Nat.le_trans Z509 K533.1
    have hk533 : k503 ≤ T533.heap.size := Nat.le_trans hk509 K533.1
    have Kt533 := Kt509.trans K533 (allS (P := fun x => x ∈ _ ∨ _ ≤ x) (Or.inr sz_b501) (allS (P := fun x => x ∈ _ ∨ _ ≤ x) (Or.inr sz_vb_507) all0))
    have g_vb_533 := r533_7
    have sz_vb_533 : h0.size ≤ vb_533 := own_szb r533_8 sz_vb_507 Kt509.1
    have ne_a1_vb_533 : a1 ≠ vb_533 := own_nev r533_8 nq528 E_a1_509.lt
    have ne_a503_vb_533 : a503 ≠ vb_533 := own_nev r533_8 nq529 Ex503_509.lt
    have ne_b503_vb_533 : b503 ≠ vb_533 := own_nev r533_8 nq530 Vr503_509.lt
    have ne_r_509_vb_533 : r_509 ≠ vb_533 := own_nev r533_8 nq531 E_s.lt
    have ne_v_s_vb_533 : v_s ≠ vb_533 := own_nev r533_8 nq532 VqU.lt
    have Fn534 : Fld Z T533.heap b501 "java/lang/AbstractStringBuilder" "count" "I" (.int (41 : Int32)) := r533_2
    have Vn534 : Arv Z T533.heap vb_533 kb_533 .byte (Int32.ofNat (2 * 41)) (List.map Value.int (own_R fb_533 (2 * 41))) (.int (0 : Int32)) := r533_5
    have N533 := Fr.app N509 Nq533
    obtain ⟨a535, T535, h535, k535, b535, kc535, X535, e535, E535, hS535, hk535, hZ535, hown535, Ex535, Fc535, Fv535, Va535, la535, lb535, IB535, Li535, st535⟩ := ldcSVL (s := s) (vm0 := T503.vm) X533 hx hZ503 hown503 (own_h hw 215 rfl) wS rfl hS503 hk533 (show Fr s.heap.size _ by rw [es0, ← hn0]; exact N533) (fun b cl q => by rw [es0]; exact O0.2.2 b cl q) IB503 (fun q => (List.mem_cons.mp q).elim (fun q => absurd q (by decide)) (fun q => absurd (hTs _ q) (by decide))) hh44 hcw (vs := [.int (46 : Int32), .int (46 : Int32), .int (46 : Int32), .int (39 : Int32)]) (z := (4 : Int32)) ⟨by decide, by decide⟩ (by decide) (by decide) (g := (mkF m 56 #[rv a1] [(.ref b501)])) rfl (hb hby d5_56) (n := 16) (by decide) (by decide) (by decide) (by decide)
    refine own_by st535 ?_
    have Od535 := Od533.ext E535
    have E_a1_535 := E_a1_533.ext E535
    have r533_0_535 := r533_0.ext E535
    have Ex503_535 := Ex503_533.ext E535
    have Fc503_535 := Fc503_533.ext E535
    have Fv503_535 := Fv503_533.ext E535
    have Vr503_535 := Vr503_533.ext E535
    have E_s_535 := E_s_533.ext E535
    have Fv_s_535 := Fv_s_533.ext E535
    have FcU_535 := FcU_533.ext E535
    have VqU_535 := VqU_533.ext E535
    have r533_1_535 := r533_1.ext E535
    have Fn534_535 := Fn534.ext E535
    have r533_3_535 := r533_3.ext E535
    have r533_4_535 := r533_4.ext E535
    have Vn534_535 := Vn534.ext E535
    have Z535 : n0 ≤ h535.size := Nat.le_trans Z533 E535.1
    have K535 := Kt533.ext E535
    have Vr535 : Arv Z h535 b535 kc535 .byte (4 : Int32) (List.map Value.int (own_R (own_lo own_dots) 4)) (.int (0 : Int32)) := Va535
    show own_Fin _ _ _ _ (T535.setTop (mkF m 58 #[rv a1] [(.ref a535), (.ref b501)]))
    have ne_vb_533_b535 : vb_533 ≠ b535 := arv_ne Vn534_535 Vr535 (Or.inl (by decide))
    have nq536 : a1 ≠ vb_533 := ne_a1_vb_533
    have nq537 : a503 ≠ vb_533 := ne_a503_vb_533
    have nq538 : b503 ≠ vb_533 := ne_b503_vb_533
    have nq539 : r_509 ≠ vb_533 := ne_r_509_vb_533
    have nq540 : v_s ≠ vb_533 := ne_v_s_vb_533
    have nq541 : a535 ≠ vb_533 := (Exa.neArv Ex535 Vn534_535 (own_h hw 6 rfl))
    have nq542 : b535 ≠ vb_533 := (Ne.symm ne_vb_533_b535)
    obtain ⟨_, T543, Lc543, X543, hQ543, st543⟩ := own_callV X535 hx hZ535 r533_0_535 hown535 (own_h hw 60 rfl) (own_h hw 61 rfl) (notFace_of_selects (args := #[]) (mvT hZ535 (own_h hw 63 rfl))) (own_h hw 63 rfl) (own_h hw 62 rfl) (own_h hw 43 rfl) (own_h hw 64 rfl) (by decide) (rmsap_10 l Z a0 hw [] b501 vb_533 kb_533 41 41 fb_533 (own_app (own_app own_qs 0 own_qs) 1 cs) a535 b535 kc535 4 own_dots h535 n0 Z535 r533_0_535 r533_1_535 Fn534_535 r533_3_535 r533_4_535 Vn534_535 g_b501 g_vb_533 Ex535 Fv535 Fc535 Vr535 ne_vb_533_b535 Od535 hST r533_6 (own_chapp (own_chapp own_qsc own_qsc) hch) own_dtc (own_dtl 4) (by decide) (by decide) (by decide) (by omega) (by decide)) (W := 0) (by decide) (by decide) (g := (mkF m 58 #[rv a1] [(.ref a535), (.ref b501)])) rfl (by rw [hml]; rfl) (argsL := [(.ref a535)]) (rest := []) (lenOf pd__28_Ljava_2f_lang_2f_String_3b__29_Ljava_2f_lang_2f_StringBuilder_3b_ rfl) rfl (Nat.le_of_eq rfl) (hb hby d5_58) rfl e535 (by decide) (by decide)
    refine own_go st543 ?_
    obtain ⟨vb_543, kb_543, fb_543, rfl, Nq543, K543, r543_0, r543_1, r543_2, r543_3, r543_4, r543_5, r543_6, r543_7, r543_8⟩ := hQ543
    have Od543 := Od535.keep K543 (allS g_b501 (allS g_vb_533 all0))
    have E_a1_543 := E_a1_535.keep K543
    have r533_0_543 := r533_0_535.keep K543
    have Ex503_543 := Ex503_535.keep K543
    have Fc503_543 := Fc503_535.keep K543 (ninS (Exa.ne Ex503_535 r533_0_535 (by decide)) (ninS ne_a503_vb_533 nin0))
    have Fv503_543 := Fv503_535.keep K543 (ninS (Exa.ne Ex503_535 r533_0_535 (by decide)) (ninS ne_a503_vb_533 nin0))
    have Vr503_543 := Vr503_535.keep K543 (ninS (Ne.symm (Exa.neArv r533_0_535 Vr503_535 (own_h hw 42 rfl))) (ninS ne_b503_vb_533 nin0))
    have E_s_543 := E_s_535.keep K543
    have Fv_s_543 := Fv_s_535.keep K543 (ninS (Ne.symm ne_b501_r_509) (ninS ne_r_509_vb_533 nin0))
    have FcU_543 := FcU_535.keep K543 (ninS (Ne.symm ne_b501_r_509) (ninS ne_r_509_vb_533 nin0))
    have VqU_543 := VqU_535.keep K543 (ninS (Ne.symm (Exa.neArv r533_0_535 VqU_535 (own_h hw 42 rfl))) (ninS ne_v_s_vb_533 nin0))
    have Ex535_543 := Ex535.keep K543
    have Fc535_543 := Fc535.keep K543 (ninS (Exa.ne Ex535 r533_0_535 (by decide)) (ninS (Exa.neArv Ex535 Vn534_535 (own_h hw 6 rfl)) nin0))
    have Fv535_543 := Fv535.keep K543 (ninS (Exa.ne Ex535 r533_0_535 (by decide)) (ninS (Exa.neArv Ex535 Vn534_535 (own_h hw 6 rfl)) nin0))
    have Vr535_543 := Vr535.keep K543 (ninS (Ne.symm (Exa.neArv r533_0_535 Vr535 (own_h hw 42 rfl))) (ninS (Ne.symm ne_vb_533_b535) nin0))
    have Z543 : n0 ≤ T543.heap.size := Nat.le_trans Z535 K543.1
    have hk543 : k535 ≤ T543.heap.size := Nat.le_trans hk535 K543.1
    have Kt543 := K535.trans K543 (allS (P := fun x => x ∈ _ ∨ _ ≤ x) (Or.inr sz_b501) (allS (P := fun x => x ∈ _ ∨ _ ≤ x) (Or.inr sz_vb_533) all0))
    have g_vb_543 := r543_7
    have sz_vb_543 : h0.size ≤ vb_543 := own_szb r543_8 sz_vb_533 K535.1
    have ne_a1_vb_543 : a1 ≠ vb_543 := own_nev r543_8 nq536 E_a1_535.lt
    have ne_a503_vb_543 : a503 ≠ vb_543 := own_nev r543_8 nq537 Ex503_535.lt
    have ne_b503_vb_543 : b503 ≠ vb_543 := own_nev r543_8 nq538 Vr503_535.lt
    have ne_r_509_vb_543 : r_509 ≠ vb_543 := own_nev r543_8 nq539 E_s_535.lt
    have ne_v_s_vb_543 : v_s ≠ vb_543 := own_nev r543_8 nq540 VqU_535.lt
    have ne_a535_vb_543 : a535 ≠ vb_543 := own_nev r543_8 nq541 Ex535.lt
    have ne_b535_vb_543 : b535 ≠ vb_543 := own_nev r543_8 nq542 Vr535.lt
    have N543 := Fr.app N533 Nq543
    obtain ⟨_, T544, Lc544, X544, hQ544, st544⟩ := own_callV X543 hx hZ535 r543_0 hown535 (own_h hw 98 rfl) (own_h hw 99 rfl) (notFace_of_selects (args := #[]) (mvT hZ535 (own_h hw 101 rfl))) (own_h hw 101 rfl) (own_h hw 100 rfl) (own_h hw 43 rfl) (own_h hw 102 rfl) (by decide) (rmts_1 l Z a0 hw [] b501 vb_543 kb_543 (own_cap 41 (41 + 4)) 45 fb_543 (own_app (own_app (own_app own_qs 0 own_qs) 1 cs) 41 own_dots) T543.heap n0 Z543 r543_0 r543_1 r543_2 r543_3 r543_4 r543_5 r543_6 (by decide) (by decide) (by omega) Od543 hST) (W := 0) (by decide) (by decide) (g := (mkF m 61 #[rv a1] [(.ref b501)])) rfl (by rw [hml]; rfl) (argsL := []) (rest := []) (lenOf pd__28__29_Ljava_2f_lang_2f_String_3b_ rfl) rfl (Nat.le_of_eq rfl) (hb hby d5_61) rfl rfl (by decide) (by decide)
    refine own_go st544 ?_
    obtain ⟨r_544, rfl, Nq544, K544, g_r_544, sb_r_544, r544_0⟩ := hQ544
    have ne_a1_r_544 : a1 ≠ r_544 := Nat.ne_of_lt (Nat.lt_of_lt_of_le E_a1_543.lt sb_r_544)
    have ne_b501_r_544 : b501 ≠ r_544 := Nat.ne_of_lt (Nat.lt_of_lt_of_le r543_0.lt sb_r_544)
    have ne_a503_r_544 : a503 ≠ r_544 := Nat.ne_of_lt (Nat.lt_of_lt_of_le Ex503_543.lt sb_r_544)
    have ne_b503_r_544 : b503 ≠ r_544 := Nat.ne_of_lt (Nat.lt_of_lt_of_le Vr503_543.lt sb_r_544)
    have ne_r_509_r_544 : r_509 ≠ r_544 := Nat.ne_of_lt (Nat.lt_of_lt_of_le E_s_543.lt sb_r_544)
    have ne_v_s_r_544 : v_s ≠ r_544 := Nat.ne_of_lt (Nat.lt_of_lt_of_le VqU_543.lt sb_r_544)
    have ne_a535_r_544 : a535 ≠ r_544 := Nat.ne_of_lt (Nat.lt_of_lt_of_le Ex535_543.lt sb_r_544)
    have ne_b535_r_544 : b535 ≠ r_544 := Nat.ne_of_lt (Nat.lt_of_lt_of_le Vr535_543.lt sb_r_544)
    have ne_vb_543_r_544 : vb_543 ≠ r_544 := Nat.ne_of_lt (Nat.lt_of_lt_of_le r543_5.lt sb_r_544)
    have sz_r_544 : h0.size ≤ r_544 := Nat.le_trans Kt543.1 sb_r_544
    have Od544 := Od543.keep K544 all0
    have E_a1_544 := E_a1_543.keep K544
    have r543_0_544 := r543_0.keep K544
    have Ex503_544 := Ex503_543.keep K544
    have Fc503_544 := Fc503_543.keep K544 nin0
    have Fv503_544 := Fv503_543.keep K544 nin0
    have Vr503_544 := Vr503_543.keep K544 nin0
    have E_s_544 := E_s_543.keep K544
    have Fv_s_544 := Fv_s_543.keep K544 nin0
    have FcU_544 := FcU_543.keep K544 nin0
    have VqU_544 := VqU_543.keep K544 nin0
    have Ex535_544 := Ex535_543.keep K544
    have Fc535_544 := Fc535_543.keep K544 nin0
    have Fv535_544 := Fv535_543.keep K544 nin0
    have Vr535_544 := Vr535_543.keep K544 nin0
    have r543_1_544 := r543_1.keep K544 nin0
    have r543_2_544 := r543_2.keep K544 nin0
    have r543_3_544 := r543_3.keep K544 nin0
    have r543_4_544 := r543_4.keep K544 nin0
    have r543_5_544 := r543_5.keep K544 nin0
    have Z544 : n0 ≤ T544.heap.size := Nat.le_trans Z543 K544.1
    have hk544 : k535 ≤ T544.heap.size := Nat.le_trans hk543 K544.1
    have Kt544 := Kt543.trans K544 all0
    have N544 := Fr.app N543 Nq544
    obtain ⟨fs545, hr545, hrun545, hended545, hRW545⟩ := X544.leaveW (s := s) hS535 (n := k535) hk544 (v := some (.ref r_544)) (fun h => by rw [Bd.returns] at h; cases h)
    refine own_done (retOut X544 hx Bd.returns rfl (Or.inr (Or.inr (Or.inr (Or.inr ⟨rfl, rfl, rfl⟩)))) (hb hby d5_64) hr545) hrun545 hended545 ⟨_, _, rfl, ?_, hRW545.1, hRW545.2.1, hRW545.2.2.1, hRW545.2.2.2.mono (by decide) (by decide)⟩
    show Qq2 Z a1 N cs h0 n0 _ T544.heap _
    exact ⟨r_544, rfl, N544, Kt544, g_r_544, sz_r_544, r544_0⟩
theorem ef_0 (m : MethodId) (x0 : Int32) (x1 : Int32) (x2 : Int32) (x3 : Int32) (x4 : Int32) (x5 : Int32) : entryFrame m #[(.int x0), (.int x1), (.int x2), (.int x3), (.int x4), (.int x5)] maxLocals = mkF m 0 #[.val (.int x0), .val (.int x1), .val (.int x2), .val (.int x3), .val (.int x4), .val (.int x5), .unset, .unset, .unset, .unset, .unset, .unset, .unset] [] := by first | (simp [entryFrame, mkF, argsToLocals, Value.category, maxLocals]; done) | rfl
def Q0 (Z : State) (p1 : Int32) (p2 : Int32) (p3 : Int32) (p4 : Int32) (p5 : Int32) (p6 : Int32) (h0 : Heap) (n0 : Nat) (v : Option Value) (h : Heap) (L : List Loc) : Prop := v = some (.int 1) ∧ Fr n0 L
abbrev G0 (Z : State) (p1 : Int32) (p2 : Int32) (p3 : Int32) (p4 : Int32) (p5 : Int32) (p6 : Int32) (h0 : Heap) (n0 : Nat) (s : State) : Outcome → State → Prop := fun o U' => ∃ v L, o = .returned v ∧ Q0 Z p1 p2 p3 p4 p5 p6 h0 n0 v U'.heap L ∧ ReturnedEndW s o U' L 48 4672
theorem pd__28_I_29__5b_C : parseMethodDescriptor "(I)[C" = some ⟨[.int], some (.array .char)⟩ := by decide +kernel
theorem pd__28__5b_C_29_V : parseMethodDescriptor "([C)V" = some ⟨[(.array .char)], none⟩ := by decide +kernel
theorem pd__28_Ljava_2f_lang_2f_String_3b__29_Ljava_2f_lang_2f_String_3b_ : parseMethodDescriptor "(Ljava/lang/String;)Ljava/lang/String;" = some ⟨[(.object "java/lang/String")], some (.object "java/lang/String")⟩ := by decide +kernel
theorem pd__28_I_29_C : parseMethodDescriptor "(I)C" = some ⟨[.int], some .char⟩ := by decide +kernel
set_option maxRecDepth 65536 in
set_option maxHeartbeats 40000000 in
theorem rm0 (l : Launch) (Z : State) (a0 : Array Value) (hw : ∀ d ∈ tables_1, d.before a0 Z = true) (ws : List Jvm.Cond) (p1 : Int32) (p2 : Int32) (p3 : Int32) (p4 : Int32) (p5 : Int32) (p6 : Int32) (h0 : Heap) (n0 : Nat) (Z0 : n0 ≤ h0.size) (O0 : own_Old Z n0 h0) (hST : own_ST Z) (hh7 : Jvm.Lit.constHeld Z "java/lang/String" 7) (hcw : Jvm.Lit.compactW.before a0 Z = true) (hh38 : Jvm.Lit.constHeld Z "com/example/pricefence/pricefence/io/InputException" 38) (hh44 : Jvm.Lit.constHeld Z "com/example/pricefence/pricefence/io/InputException" 44) :
    MetFree l x (head1 (Jvm.Cond.code x code maxLocals ret :: ws) room_1) (fun a U => a = #[(.int p1), (.int p2), (.int p3), (.int p4), (.int p5), (.int p6)] ∧ (Z.Warmed39 U.vm ∧ Z = U) ∧ U.heap = h0) (fun _ _ _ _ _ => True) (fun _ U o U' => ∃ v L, o = .returned v ∧ Q0 Z p1 p2 p3 p4 p5 p6 h0 n0 v U'.heap L ∧ ReturnedEndW U o U' L 48 4672) := by
  refine MetFree.of_bodySF (plainFor_of_name pn_com_example_pricefence_pricefence_io_InputExceptionQuotePinLaw) hisR ?_
  intro p e s m args below meth c s₁ Bd hml0 hP hK
  obtain ⟨rfl, ⟨hZ, hZs⟩, hh⟩ := hP
  have hx := Bd.exec
  have hby := Bd.bytes
  have hml : c.maxLocals = 13 := hml0
  have hown : s.vm.findClass "com/example/pricefence/pricefence/io/InputExceptionQuotePinLaw" = some m.cls := findClass_of_methodNamed Bd.named
  have hnm := (name_of_methodNamed Bd.named Bd.method).1
  have X0 : Stand p l e room_1 s m #[(.int p1), (.int p2), (.int p3), (.int p4), (.int p5), (.int p6)] below meth c s₁ [] 0 0 := Stand.of_body Bd
  have e0 : s₁.heap = h0 := by rw [← hh, Bd.state]; rfl
  have es0 : s.heap = h0 := hh
  have N0 := Fr.nil n0
  show own_Fin p e below (G0 Z p1 p2 p3 p4 p5 p6 h0 n0 s) (s₁.setTop (entryFrame m #[(.int p1), (.int p2), (.int p3), (.int p4), (.int p5), (.int p6)] maxLocals))
  rw [ef_0 m p1 p2 p3 p4 p5 p6]
  have X0w : Stand p l e room_1 (s.setVm s.vm) m #[(.int p1), (.int p2), (.int p3), (.int p4), (.int p5), (.int p6)] below meth c s₁ [] 0 0 := X0
  have hS0 : s.Since s.vm 0 := (State.WarmedH.refl s).since 0
  have hk0 : 0 ≤ h0.size := Nat.zero_le _
  have IB0 : IB Z s.vm [] := hZs ▸ IB.start
  refine own_gk (XS.iloadN X0w.here hx rfl (hb hby at_0) rfl) ?_
  obtain ⟨_, T546, Lc546, X546, hQ546, st546⟩ := own_callS X0w hx hZ hown (own_h hw 0 rfl) (own_h hw 1 rfl) (own_h hw 2 rfl) (own_h hw 3 rfl) (by decide) (rmmake l Z a0 hw [] p1 h0 n0 Z0) (W := 0) (by decide) (by decide) (g := (mkF m 1 #[iv p1, iv p2, iv p3, iv p4, iv p5, iv p6, .unset, .unset, .unset, .unset, .unset, .unset, .unset] [(.int p1)])) rfl (by rw [hml]; rfl) (argsL := [(.int p1)]) (rest := []) (lenOf pd__28_I_29__5b_C rfl) rfl (Nat.le_of_eq rfl) (hb hby at_1) rfl e0 (by decide) (by decide)
  refine own_go st546 ?_
  obtain ⟨b_546, kb_546, N_546, rfl, Nq546, K546, g_b_546, sb_b_546, r546_0, r546_1⟩ := hQ546
  have Od546 := O0.keep K546 all0
  have Z546 : n0 ≤ T546.heap.size := Nat.le_trans Z0 K546.1
  have hk546 : 0 ≤ T546.heap.size := Nat.le_trans hk0 K546.1
  have N546 := Fr.app N0 Nq546
  refine own_gk (XS.astore X546.here hx rfl (hb hby at_4) rfl rfl rfl) ?_
  refine own_gk (XS.aload X546.here hx rfl (hb hby at_6) rfl rfl) ?_
  obtain ⟨cl547, Ar547, qa547, Sa547, Na547, Ha547, Ga547⟩ := id r546_0
  refine own_by (X546.arraylength hx Ar547.1 (State.isArrayOf_alike hZ.alike Ar547.2.1) (g := (mkF m 8 #[iv p1, iv p2, iv p3, iv p4, iv p5, iv p6, rv b_546, .unset, .unset, .unset, .unset, .unset, .unset] [(.ref b_546)])) rfl rfl (hb hby at_8)) ?_
  rw [len_of Sa547 Na547]
  show own_Fin _ _ _ _ (T546.setTop (mkF m 9 #[iv p1, iv p2, iv p3, iv p4, iv p5, iv p6, rv b_546, .unset, .unset, .unset, .unset, .unset, .unset] [(.int (Int32.ofNat (N_546)))]))
  refine own_gk (XS.istore X546.here hx rfl (hb hby at_9) rfl rfl) ?_
  have hmem := r546_1
  have hN57 : N_546 ≤ 57 := by omega
  have hj548 : ∀ (Tj548 : State) (Lj548 : List Loc) (hp548 : Heap) (ff : Nat → Int32), Stand p l e room_1 (s.setVm s.vm) m #[(.int p1), (.int p2), (.int p3), (.int p4), (.int p5), (.int p6)] below meth c Tj548 Lj548 1 57 → Tj548.heap = hp548 → Fr n0 Lj548 → n0 ≤ hp548.size → own_Old Z n0 hp548 → Arv Z hp548 b_546 kb_546 .char (Int32.ofNat (N_546)) (List.map Value.int (own_R ff N_546)) (.int (0 : Int32)) → (∀ i, own_ch (ff i)) → own_Fin p e below (G0 Z p1 p2 p3 p4 p5 p6 h0 n0 s) (Tj548.setTop (mkF m 41 #[iv p1, iv p2, iv p3, iv p4, iv p5, iv p6, rv b_546, iv (Int32.ofNat (N_546)), .unset, .unset, .unset, .unset, .unset] [])) := by
    intro Tj548 Lj548 hp548 ff Xj548 ej548 Nj548 Zj548 Oj548 V_j548 hch
    have hkj548 : 0 ≤ hp548.size := Nat.zero_le _
    show own_Fin _ _ _ _ (Tj548.setTop (mkF m 41 #[iv p1, iv p2, iv p3, iv p4, iv p5, iv p6, rv b_546, iv (Int32.ofNat (N_546)), .unset, .unset, .unset, .unset, .unset] []))
    obtain ⟨T549, h549, X549, e549, E549, A549, D549, U549, st549⟩ := newO Xj548 hx hZ hown (own_h hw 5 rfl) (own_h hw 6 rfl) (own_h hw 7 rfl) ej548 (g := (mkF m 41 #[iv p1, iv p2, iv p3, iv p4, iv p5, iv p6, rv b_546, iv (Int32.ofNat (N_546)), .unset, .unset, .unset, .unset, .unset] [])) rfl (hb hby at_41) (by decide) (by decide)
    obtain ⟨b549, g549⟩ : ∃ z, z = hp548.size := ⟨_, rfl⟩
    rw [← g549] at A549 D549 U549 st549
    refine own_by st549 ?_
    have ne_b_546_b549 : b_546 ≠ b549 := Nat.ne_of_lt (Nat.lt_of_lt_of_eq V_j548.lt g549.symm)
    have Od549 := Oj548.ext E549
    have V_j548_549 := V_j548.ext E549
    have g_b549 : n0 ≤ b549 := Nat.le_trans Zj548 (Nat.le_of_eq g549.symm)
    have Z549 : n0 ≤ h549.size := Nat.le_trans Zj548 E549.1
    have hk549 : 0 ≤ h549.size := Nat.le_trans hkj548 E549.1
    have E_b549 := A549
    have F_value_b549 : Fld Z h549 b549 "java/lang/String" "value" "[B" .null := D549 (Or.inr (own_h hw 20 rfl)) (ty := (.array .byte)) (by decide)
    have F_coder_b549 : Fld Z h549 b549 "java/lang/String" "coder" "B" (.int (0 : Int32)) := D549 (Or.inr (own_h hw 21 rfl)) (ty := .byte) (by decide)
    refine own_gk (XS.dup X549.here hx rfl (hb hby at_44) rfl rfl) ?_
    refine own_gk (XS.aload X549.here hx rfl (hb hby at_45) rfl rfl) ?_
    obtain ⟨_, _, ⟨T550, L550, k550, n550⟩, -, X550, hs2550, hgr550, ⟨Lc550, ⟨hQ550, hK550⟩, l550, y550, z550⟩, st550⟩ := X549.specialBackS hx (y := own_y2) rfl hown (mvT hZ (own_h hw 8 rfl)) (mvT hZ (own_h hw 9 rfl)) (mvT hZ (own_h hw 10 rfl)) (by decide) (own_backK (W := 1) (rmstrS l Z a0 hw [] b549 b_546 kb_546 N_546 ff h549 n0 Z549 E_b549 F_value_b549 F_coder_b549 g_b549 Od549 hST V_j548_549 (by omega) hch hh7 hcw) hZ (own_h hw 10 rfl) (own_h hw 7 rfl) (by decide) (by decide)) (g := (mkF m 47 #[iv p1, iv p2, iv p3, iv p4, iv p5, iv p6, rv b_546, iv (Int32.ofNat (N_546)), .unset, .unset, .unset, .unset, .unset] [(.ref b_546), (.ref b549), (.ref b549)])) rfl (by rw [hml]; rfl) (Steps.refl _) (a := b549) (argsL := [(.ref b_546)]) (rest := [(.ref b549)]) (lenOf pd__28__5b_C_29_V rfl) rfl (by show 2 * 0 + _ ≤ _; exact Nat.le_of_eq rfl) (hb hby at_47) (fun _ hv => ⟨rfl, e549, (by decide : 2 + 2 ≤ _), (by decide : 61 + 192 ≤ _), own_K.warm (Or.inl IB0) hv⟩)
    dsimp only [Pt.U, Pt.locs, Pt.cells, Pt.slots] at X550 l550 y550 z550 st550 hQ550 hs2550 hgr550 hK550
    subst l550 y550 z550
    obtain ⟨Xr550, hS550, hZ550, hown550⟩ := rebS hS0 (show 0 ≤ T549.heap.size by rw [e549]; exact hk549) X550 hs2550 hgr550 hZ hown
    refine own_go st550 ?_
    obtain ⟨rfl, Nq550, K550, r550_0⟩ := hQ550
    have Od550 := Od549.keep K550 (allS g_b549 all0)
    have V_j548_550 := V_j548_549.keep K550 (ninS ne_b_546_b549 nin0)
    have E_b549_550 := E_b549.keep K550
    have Z550 : n0 ≤ T550.heap.size := Nat.le_trans Z549 K550.1
    have hk550 : 0 ≤ T550.heap.size := Nat.le_trans hk549 K550.1
    have hkr550 : T550.heap.size ≤ T550.heap.size := Nat.le_refl _
    have N550 := Fr.app Nj548 Nq550
    refine own_gk (XS.astore Xr550.here hx rfl (hb hby at_50) rfl rfl rfl) ?_
    show own_Fin _ _ _ _ (T550.setTop (mkF m 52 #[iv p1, iv p2, iv p3, iv p4, iv p5, iv p6, rv b_546, iv (Int32.ofNat (N_546)), rv b549, .unset, .unset, .unset, .unset] []))
    by_cases h40 : N_546 ≤ 40
    · show own_Fin _ _ _ _ (T550.setTop (mkF m 52 #[iv p1, iv p2, iv p3, iv p4, iv p5, iv p6, rv b_546, iv (Int32.ofNat (N_546)), rv b549, .unset, .unset, .unset, .unset] []))
      refine own_gk (XS.aload Xr550.here hx rfl (hb hby at_52) rfl rfl) ?_
      obtain ⟨_, _, ⟨T551, L551, k551, n551⟩, -, X551, hs2551, hgr551, ⟨Lc551, hQ551, l551, y551, z551⟩, st551⟩ := callSS Xr550 hx (y := own_y5) hown550 (mvT hZ550 (own_h hw 26 rfl)) (mvT hZ550 (own_h hw 27 rfl)) (mvT hZ550 (own_h hw 28 rfl)) (mvT hZ550 (own_h hw 29 rfl)) (by decide) (own_backKn (W := 0) (rmq1 l Z a0 hw [] b549 N_546 ff T550.heap T550.heap.size (Nat.le_refl _) r550_0 hch (show own_Old Z T550.heap.size T550.heap from ⟨Nat.le_trans Od550.1 Z550, Od550.2⟩) hST hcw hh38 hh44 rfl h40 (by omega)) hZ550 (own_h hw 29 rfl) (own_h hw 28 rfl) (by decide) (by decide)) (g := (mkF m 54 #[iv p1, iv p2, iv p3, iv p4, iv p5, iv p6, rv b_546, iv (Int32.ofNat (N_546)), rv b549, .unset, .unset, .unset, .unset] [(.ref b549)])) rfl (by rw [hml]; rfl) (argsL := [(.ref b549)]) (rest := []) (lenOf pd__28_Ljava_2f_lang_2f_String_3b__29_Ljava_2f_lang_2f_String_3b_ rfl) rfl (by show 2 * 0 + _ ≤ _; exact Nat.le_of_eq rfl) (hb hby at_54) (fun _ hv => ⟨rfl, rfl, (by decide : 4 + 10 ≤ _), (by decide : 253 + 1056 ≤ _), own_K.warm hK550 hv⟩)
      dsimp only [Pt.U, Pt.locs, Pt.cells, Pt.slots] at X551 l551 y551 z551 st551 hQ551 hs2551 hgr551
      subst l551 y551 z551
      obtain ⟨Xr551, hS551, hZ551, hown551⟩ := rebS hS550 (show T550.heap.size ≤ T550.heap.size from hkr550) X551 hs2551 hgr551 hZ550 hown550
      refine own_go st551 ?_
      obtain ⟨r_551, rfl, Nq551, K551, g_r_551, sb_r_551, r551_0⟩ := hQ551
      have ne_b_546_r_551 : b_546 ≠ r_551 := Nat.ne_of_lt (Nat.lt_of_lt_of_le V_j548_550.lt sb_r_551)
      have ne_b549_r_551 : b549 ≠ r_551 := Nat.ne_of_lt (Nat.lt_of_lt_of_le E_b549_550.lt sb_r_551)
      have Od551 := Od550.keep K551 all0
      have V_j548_551 := V_j548_550.keep K551 nin0
      have E_b549_551 := E_b549_550.keep K551
      have Z551 : n0 ≤ T551.heap.size := Nat.le_trans Z550 K551.1
      have hk551 : T550.heap.size ≤ T551.heap.size := Nat.le_trans hkr550 K551.1
      have E_r_551 := r551_0.1
      have hkr551 : T551.heap.size ≤ T551.heap.size := Nat.le_refl _
      have N551 := Fr.app N550 (own_frm Z550 Nq551)
      refine own_gk (XS.astore Xr551.here hx rfl (hb hby at_57) rfl rfl rfl) ?_
      refine own_gk (XS.iload Xr551.here hx rfl (hb hby at_59) rfl) ?_
      refine own_gk (XS.bipush Xr551.here hx rfl (hb hby at_61)) ?_
      show own_Fin _ _ _ _ (T551.setTop (mkF m 63 #[iv p1, iv p2, iv p3, iv p4, iv p5, iv p6, rv b_546, iv (Int32.ofNat (N_546)), rv b549, rv r_551, .unset, .unset, .unset] [(.int (40 : Int32)), (.int (Int32.ofNat (N_546)))]))
      obtain ⟨_, T552, Lc552, X552, hQ552, st552⟩ := own_callS Xr551 hx hZ551 hown551 (own_h hw 143 rfl) (own_h hw 139 rfl) (own_h hw 140 rfl) (own_h hw 141 rfl) (by decide) (rmmn1 l Z a0 hw [] N_546 40 T551.heap n0 Z551 (by omega) (by decide) (by omega)) (W := 0) (by decide) (by decide) (g := (mkF m 63 #[iv p1, iv p2, iv p3, iv p4, iv p5, iv p6, rv b_546, iv (Int32.ofNat (N_546)), rv b549, rv r_551, .unset, .unset, .unset] [(.int (40 : Int32)), (.int (Int32.ofNat (N_546)))])) rfl (by rw [hml]; rfl) (argsL := [(.int (Int32.ofNat (N_546))), (.int (40 : Int32))]) (rest := []) (lenOf pd__28_II_29_I rfl) rfl (Nat.le_of_eq rfl) (hb hby at_63) rfl rfl (by decide) (by decide)
      obtain ⟨rfl, Nq552, e552⟩ := hQ552
      refine own_go st552 ?_
      have N552 := Fr.app N551 Nq552
      refine own_gk (XS.istore X552.here hx rfl (hb hby at_66) rfl rfl) ?_
      refine own_gk (XS.iload X552.here hx rfl (hb hby at_68) rfl) ?_
      refine own_gk (XS.bipush X552.here hx rfl (hb hby at_70)) ?_
      refine own_gk (XS.icmpNo X552.here hx rfl (hb hby at_72) rfl (flt (show ¬ ((40 : Int32) < (Int32.ofNat (N_546))) from (fun q => absurd ((own_ltN (a := 40) (b := N_546) (by omega) (by omega)).mp q) (by omega)))).2.2.1) ?_
      show own_Fin _ _ _ _ (T552.setTop (mkF m 75 #[iv p1, iv p2, iv p3, iv p4, iv p5, iv p6, rv b_546, iv (Int32.ofNat (N_546)), rv b549, rv r_551, iv (Int32.ofNat (N_546)), .unset, .unset] []))
      refine own_gk (XS.iload X552.here hx rfl (hb hby at_75) rfl) ?_
      refine own_gk (XS.iconst X552.here hx rfl (hb hby at_77)) ?_
      refine own_gk (XS.iadd X552.here hx rfl (hb hby at_78) rfl) ?_
      show own_Fin _ _ _ _ (T552.setTop (mkF m 79 #[iv p1, iv p2, iv p3, iv p4, iv p5, iv p6, rv b_546, iv (Int32.ofNat (N_546)), rv b549, rv r_551, iv (Int32.ofNat (N_546)), .unset, .unset] [(.int ((Int32.ofNat (N_546)) + (2 : Int32)))]))
      rw [show ((Int32.ofNat (N_546)) + (2 : Int32)) = Int32.ofNat (N_546 + 2) from (own_addN N_546 2)]
      refine own_gk (XS.goto X552.here hx rfl (pc0 := 79) (pc' := 84) rfl (hb hby at_79) (by decide) (by decide)) ?_
      refine own_gk (XS.istore X552.here hx rfl (hb hby at_84) rfl rfl) ?_
      refine own_gk (XS.aload X552.here hx rfl (hb hby at_86) rfl rfl) ?_
      obtain ⟨_, T553, Lc553, X553, hQ553, st553⟩ := own_callV X552 hx hZ551 E_r_551 hown551 (own_h hw 144 rfl) (own_h hw 31 rfl) (notFace_of_selects (args := #[]) (mvT hZ551 (own_h hw 33 rfl))) (own_h hw 33 rfl) (own_h hw 32 rfl) (own_h hw 7 rfl) (own_h hw 34 rfl) (by decide) (rmlen l Z a0 hw [] r_551 (1 + N_546 + 1) (own_q1 N_546 ff) T551.heap n0 Z551 r551_0 Od551 hST (by omega)) (W := 0) (by decide) (by decide) (g := (mkF m 88 #[iv p1, iv p2, iv p3, iv p4, iv p5, iv p6, rv b_546, iv (Int32.ofNat (N_546)), rv b549, rv r_551, iv (Int32.ofNat (N_546)), iv (Int32.ofNat (N_546 + 2)), .unset] [(.ref r_551)])) rfl (by rw [hml]; rfl) (argsL := []) (rest := []) (lenOf pd__28__29_I rfl) rfl (Nat.le_of_eq rfl) (hb hby at_88) rfl e552 (by decide) (by decide)
      obtain ⟨rfl, Nq553, e553⟩ := hQ553
      refine own_go st553 ?_
      have N553 := Fr.app N552 Nq553
      show own_Fin _ _ _ _ (T553.setTop (mkF m 91 #[iv p1, iv p2, iv p3, iv p4, iv p5, iv p6, rv b_546, iv (Int32.ofNat (N_546)), rv b549, rv r_551, iv (Int32.ofNat (N_546)), iv (Int32.ofNat (N_546 + 2)), .unset] [(.int (Int32.ofNat ((1 + N_546 + 1))))]))
      refine own_gk (XS.iload X553.here hx rfl (hb hby at_91) rfl) ?_
      refine own_gk (XS.icmpYes X553.here hx rfl (pc0 := 93) (pc' := 98) rfl (hb hby at_93) rfl (teq (show (Int32.ofNat ((1 + N_546 + 1))) = (Int32.ofNat (N_546 + 2)) from ((own_eqN (a := (1 + N_546 + 1)) (b := N_546 + 2) (by omega) (by omega)).mpr (by omega)))).1 (by decide) (by decide)) ?_
      refine own_gk (XS.aload X553.here hx rfl (hb hby at_98) rfl rfl) ?_
      refine own_gk (XS.iconst X553.here hx rfl (hb hby at_100)) ?_
      obtain ⟨_, T554, Lc554, X554, hQ554, st554⟩ := own_callV X553 hx hZ551 E_r_551 hown551 (own_h hw 145 rfl) (own_h hw 146 rfl) (notFace_of_selects (args := #[]) (mvT hZ551 (own_h hw 148 rfl))) (own_h hw 148 rfl) (own_h hw 147 rfl) (own_h hw 7 rfl) (own_h hw 149 rfl) (by decide) (rmcat l Z a0 hw [] r_551 0 (1 + N_546 + 1) (own_q1 N_546 ff) T551.heap n0 Z551 r551_0 Od551 hST (by omega) (by omega) (own_q1c hch)) (W := 0) (by decide) (by decide) (g := (mkF m 101 #[iv p1, iv p2, iv p3, iv p4, iv p5, iv p6, rv b_546, iv (Int32.ofNat (N_546)), rv b549, rv r_551, iv (Int32.ofNat (N_546)), iv (Int32.ofNat (N_546 + 2)), .unset] [(.int (0 : Int32)), (.ref r_551)])) rfl (by rw [hml]; rfl) (argsL := [(.int (0 : Int32))]) (rest := []) (lenOf pd__28_I_29_C rfl) rfl (Nat.le_of_eq rfl) (hb hby at_101) rfl e553 (by decide) (by decide)
      obtain ⟨rfl, Nq554, e554⟩ := hQ554
      refine own_go st554 ?_
      have N554 := Fr.app N553 Nq554
      show own_Fin _ _ _ _ (T554.setTop (mkF m 104 #[iv p1, iv p2, iv p3, iv p4, iv p5, iv p6, rv b_546, iv (Int32.ofNat (N_546)), rv b549, rv r_551, iv (Int32.ofNat (N_546)), iv (Int32.ofNat (N_546 + 2)), .unset] [(.int ((own_q1 N_546 ff) 0))]))
      refine own_gk (XS.bipush X554.here hx rfl (hb hby at_104)) ?_
      refine own_gk (XS.icmpYes X554.here hx rfl (pc0 := 106) (pc' := 111) rfl (hb hby at_106) rfl (teq (show ((own_q1 N_546 ff) 0) = (39 : Int32) from own_q1_0 _ _)).1 (by decide) (by decide)) ?_
      refine own_gk (XS.aload X554.here hx rfl (hb hby at_111) rfl rfl) ?_
      refine own_gk (XS.iload X554.here hx rfl (hb hby at_113) rfl) ?_
      refine own_gk (XS.iconst X554.here hx rfl (hb hby at_115)) ?_
      show own_Fin _ _ _ _ (T554.setTop (mkF m 116 #[iv p1, iv p2, iv p3, iv p4, iv p5, iv p6, rv b_546, iv (Int32.ofNat (N_546)), rv b549, rv r_551, iv (Int32.ofNat (N_546)), iv (Int32.ofNat (N_546 + 2)), .unset] [(.int (1 : Int32)), (.int (Int32.ofNat (N_546 + 2))), (.ref r_551)]))
      refine own_gk (XS.isub X554.here hx rfl (hb hby at_116) rfl) ?_
      show own_Fin _ _ _ _ (T554.setTop (mkF m 117 #[iv p1, iv p2, iv p3, iv p4, iv p5, iv p6, rv b_546, iv (Int32.ofNat (N_546)), rv b549, rv r_551, iv (Int32.ofNat (N_546)), iv (Int32.ofNat (N_546 + 2)), .unset] [(.int ((Int32.ofNat (N_546 + 2)) - (1 : Int32))), (.ref r_551)]))
      rw [show ((Int32.ofNat (N_546 + 2)) - (1 : Int32)) = Int32.ofNat (N_546 + 2 - 1) from ((own_subN (a := N_546 + 2) (b := 1) (by omega)).trans (congrArg Int32.ofNat (by omega)))]
      obtain ⟨_, T555, Lc555, X555, hQ555, st555⟩ := own_callV X554 hx hZ551 E_r_551 hown551 (own_h hw 145 rfl) (own_h hw 146 rfl) (notFace_of_selects (args := #[]) (mvT hZ551 (own_h hw 148 rfl))) (own_h hw 148 rfl) (own_h hw 147 rfl) (own_h hw 7 rfl) (own_h hw 149 rfl) (by decide) (rmcat l Z a0 hw [] r_551 (N_546 + 2 - 1) (1 + N_546 + 1) (own_q1 N_546 ff) T551.heap n0 Z551 r551_0 Od551 hST (by omega) (by omega) (own_q1c hch)) (W := 0) (by decide) (by decide) (g := (mkF m 117 #[iv p1, iv p2, iv p3, iv p4, iv p5, iv p6, rv b_546, iv (Int32.ofNat (N_546)), rv b549, rv r_551, iv (Int32.ofNat (N_546)), iv (Int32.ofNat (N_546 + 2)), .unset] [(.int (Int32.ofNat (N_546 + 2 - 1))), (.ref r_551)])) rfl (by rw [hml]; rfl) (argsL := [(.int (Int32.ofNat (N_546 + 2 - 1)))]) (rest := []) (lenOf pd__28_I_29_C rfl) rfl (Nat.le_of_eq rfl) (hb hby at_117) rfl e554 (by decide) (by decide)
      obtain ⟨rfl, Nq555, e555⟩ := hQ555
      refine own_go st555 ?_
      have N555 := Fr.app N554 Nq555
      refine own_gk (XS.bipush X555.here hx rfl (hb hby at_120)) ?_
      refine own_gk (XS.icmpYes X555.here hx rfl (pc0 := 122) (pc' := 127) rfl (hb hby at_122) rfl (teq (show ((own_q1 N_546 ff) (N_546 + 2 - 1)) = (39 : Int32) from own_q1_l _ _)).1 (by decide) (by decide)) ?_
      refine own_gk (XS.iload X555.here hx rfl (hb hby at_127) rfl) ?_
      show own_Fin _ _ _ _ (T555.setTop (mkF m 129 #[iv p1, iv p2, iv p3, iv p4, iv p5, iv p6, rv b_546, iv (Int32.ofNat (N_546)), rv b549, rv r_551, iv (Int32.ofNat (N_546)), iv (Int32.ofNat (N_546 + 2)), .unset] [(.int (Int32.ofNat (N_546)))]))
      refine own_gk (XS.bipush X555.here hx rfl (hb hby at_129)) ?_
      refine own_gk (XS.icmpYes X555.here hx rfl (pc0 := 131) (pc' := 176) rfl (hb hby at_131) rfl (flt (show ¬ ((40 : Int32) < (Int32.ofNat (N_546))) from (fun q => absurd ((own_ltN (a := 40) (b := N_546) (by omega) (by omega)).mp q) (by omega)))).2.2.2 (by decide) (by decide)) ?_
      refine own_gk (XS.iload X555.here hx rfl (hb hby at_176) rfl) ?_
      by_cases hp2 : 0 < N_546
      · refine own_gk (XS.ifNo X555.here hx rfl (hb hby at_178) rfl ((if0 _ _).trans (tlt (show (0 : Int32) < (Int32.ofNat (N_546)) from ((own_ltN (a := 0) (b := N_546) (by omega) (by omega)).mpr (by omega)))).2.2.2)) ?_
        refine own_gk (XS.iload X555.here hx rfl (hb hby at_181) rfl) ?_
        show own_Fin _ _ _ _ (T555.setTop (mkF m 183 #[iv p1, iv p2, iv p3, iv p4, iv p5, iv p6, rv b_546, iv (Int32.ofNat (N_546)), rv b549, rv r_551, iv (Int32.ofNat (N_546)), iv (Int32.ofNat (N_546 + 2)), .unset] [(.int p6)]))
        refine own_by (X555.ldcInt hx hown551 (mvT hZ551 (own_h hw 167 rfl)) (g := (mkF m 183 #[iv p1, iv p2, iv p3, iv p4, iv p5, iv p6, rv b_546, iv (Int32.ofNat (N_546)), rv b549, rv r_551, iv (Int32.ofNat (N_546)), iv (Int32.ofNat (N_546 + 2)), .unset] [(.int p6)])) rfl (hb hby at_183)) ?_
        refine own_gk (XS.iand X555.here hx rfl (hb hby at_185) rfl) ?_
        refine own_gk (XS.iload X555.here hx rfl (hb hby at_186) rfl) ?_
        refine own_gk (iremM X555 hx rfl (hb hby at_188) rfl (fun q => absurd ((own_eqN (a := N_546) (b := 0) (by omega) (by decide)).mp q) (by omega))) ?_
        obtain ⟨i556, hi556, he556⟩ := own_bsrem (p := p6) (n := N_546) hp2 (by omega)
        show own_Fin _ _ _ _ (T555.setTop (mkF m 189 #[iv p1, iv p2, iv p3, iv p4, iv p5, iv p6, rv b_546, iv (Int32.ofNat (N_546)), rv b549, rv r_551, iv (Int32.ofNat (N_546)), iv (Int32.ofNat (N_546 + 2)), .unset] [(.int ((p6 &&& (2147483647 : Int32)) % (Int32.ofNat (N_546))))]))
        rw [show ((p6 &&& (2147483647 : Int32)) % (Int32.ofNat (N_546))) = (Int32.ofNat (i556)) from he556]
        refine own_gk (XS.istore X555.here hx rfl (hb hby at_189) rfl rfl) ?_
        refine own_gk (XS.aload X555.here hx rfl (hb hby at_191) rfl rfl) ?_
        refine own_gk (XS.iload X555.here hx rfl (hb hby at_193) rfl) ?_
        refine own_gk (XS.iconst X555.here hx rfl (hb hby at_195)) ?_
        show own_Fin _ _ _ _ (T555.setTop (mkF m 196 #[iv p1, iv p2, iv p3, iv p4, iv p5, iv p6, rv b_546, iv (Int32.ofNat (N_546)), rv b549, rv r_551, iv (Int32.ofNat (N_546)), iv (Int32.ofNat (N_546 + 2)), iv (Int32.ofNat (i556))] [(.int (1 : Int32)), (.int (Int32.ofNat (i556))), (.ref r_551)]))
        refine own_gk (XS.iadd X555.here hx rfl (hb hby at_196) rfl) ?_
        show own_Fin _ _ _ _ (T555.setTop (mkF m 197 #[iv p1, iv p2, iv p3, iv p4, iv p5, iv p6, rv b_546, iv (Int32.ofNat (N_546)), rv b549, rv r_551, iv (Int32.ofNat (N_546)), iv (Int32.ofNat (N_546 + 2)), iv (Int32.ofNat (i556))] [(.int ((Int32.ofNat (i556)) + (1 : Int32))), (.ref r_551)]))
        rw [show ((Int32.ofNat (i556)) + (1 : Int32)) = Int32.ofNat (i556 + 1) from (own_addN i556 1)]
        obtain ⟨_, T557, Lc557, X557, hQ557, st557⟩ := own_callV X555 hx hZ551 E_r_551 hown551 (own_h hw 145 rfl) (own_h hw 146 rfl) (notFace_of_selects (args := #[]) (mvT hZ551 (own_h hw 148 rfl))) (own_h hw 148 rfl) (own_h hw 147 rfl) (own_h hw 7 rfl) (own_h hw 149 rfl) (by decide) (rmcat l Z a0 hw [] r_551 (i556 + 1) (1 + N_546 + 1) (own_q1 N_546 ff) T551.heap n0 Z551 r551_0 Od551 hST (by omega) (by omega) (own_q1c hch)) (W := 0) (by decide) (by decide) (g := (mkF m 197 #[iv p1, iv p2, iv p3, iv p4, iv p5, iv p6, rv b_546, iv (Int32.ofNat (N_546)), rv b549, rv r_551, iv (Int32.ofNat (N_546)), iv (Int32.ofNat (N_546 + 2)), iv (Int32.ofNat (i556))] [(.int (Int32.ofNat (i556 + 1))), (.ref r_551)])) rfl (by rw [hml]; rfl) (argsL := [(.int (Int32.ofNat (i556 + 1)))]) (rest := []) (lenOf pd__28_I_29_C rfl) rfl (Nat.le_of_eq rfl) (hb hby at_197) rfl e555 (by decide) (by decide)
        obtain ⟨rfl, Nq557, e557⟩ := hQ557
        refine own_go st557 ?_
        have N557 := Fr.app N555 Nq557
        refine own_gk (XS.aload X557.here hx rfl (hb hby at_200) rfl rfl) ?_
        refine own_gk (XS.iload X557.here hx rfl (hb hby at_202) rfl) ?_
        obtain ⟨cl558, Ar558, qa558, Sa558, Na558, Ha558, Ga558⟩ := id V_j548_551
        have hin558 : ¬ ((Int32.ofNat (i556)) < 0 ∨ cl558.slots.size ≤ ((Int32.ofNat (i556))).toNatClampNeg) := inb_of Sa558 (own_inb (i := i556) (n := N_546) (by omega) (by omega))
        have hat558 : cl558.slots[((Int32.ofNat (i556))).toNatClampNeg]? = some (.int (ff i556)) := Has.at Ha558 hin558 (own_getV (i := i556) (n := N_546) (by omega) (by omega))
        refine own_by (X557.caload hx (j := (Int32.ofNat (i556))) (v := (.int (ff i556))) (by rw [e557]; exact Ar558.1) (State.isArrayOf_alike hZ551.alike Ar558.2.1) Ar558.2.2 hin558 hat558 (g := (mkF m 204 #[iv p1, iv p2, iv p3, iv p4, iv p5, iv p6, rv b_546, iv (Int32.ofNat (N_546)), rv b549, rv r_551, iv (Int32.ofNat (N_546)), iv (Int32.ofNat (N_546 + 2)), iv (Int32.ofNat (i556))] [(.int (Int32.ofNat (i556))), (.ref b_546), (.int ((own_q1 N_546 ff) (i556 + 1)))])) rfl rfl (hb hby at_204)) ?_
        show own_Fin _ _ _ _ (T557.setTop (mkF m 205 #[iv p1, iv p2, iv p3, iv p4, iv p5, iv p6, rv b_546, iv (Int32.ofNat (N_546)), rv b549, rv r_551, iv (Int32.ofNat (N_546)), iv (Int32.ofNat (N_546 + 2)), iv (Int32.ofNat (i556))] [(.int (ff i556)), (.int ((own_q1 N_546 ff) (i556 + 1)))]))
        refine own_gk (XS.icmpYes X557.here hx rfl (pc0 := 205) (pc' := 210) rfl (hb hby at_205) rfl (teq (show ((own_q1 N_546 ff) (i556 + 1)) = (ff i556) from own_q1_k _ hi556)).1 (by decide) (by decide)) ?_
        refine own_gk (XS.iconst X557.here hx rfl (hb hby at_210)) ?_
        obtain ⟨fs559, hr559, hrun559, hended559, hRW559⟩ := X557.leaveW (s := s) hS551 (n := T551.heap.size) (by rw [e557]; exact hkr551) (v := some (.int (1 : Int32))) (fun h => by rw [Bd.returns] at h; cases h)
        refine own_done (retN X557 hx (t := .boolean) Bd.returns (by simp) (hb hby at_211) hr559) hrun559 hended559 ⟨_, _, rfl, ?_, hRW559.1, hRW559.2.1, hRW559.2.2.1, hRW559.2.2.2.mono (by decide) (by decide)⟩
        show Q0 Z p1 p2 p3 p4 p5 p6 h0 n0 _ T557.heap _
        rw [e557]
        exact ⟨rfl, N557⟩
      · refine own_gk (XS.ifYes X555.here hx rfl (pc0 := 178) (pc' := 210) rfl (hb hby at_178) rfl ((if0 _ _).trans (flt (show ¬ ((0 : Int32) < (Int32.ofNat (N_546))) from (fun q => absurd ((own_ltN (a := 0) (b := N_546) (by omega) (by omega)).mp q) (by omega)))).2.2.2) (by decide) (by decide)) ?_
        refine own_gk (XS.iconst X555.here hx rfl (hb hby at_210)) ?_
        show own_Fin _ _ _ _ (T555.setTop (mkF m 211 #[iv p1, iv p2, iv p3, iv p4, iv p5, iv p6, rv b_546, iv (Int32.ofNat (N_546)), rv b549, rv r_551, iv (Int32.ofNat (N_546)), iv (Int32.ofNat (N_546 + 2)), .unset] [(.int (1 : Int32))]))
        obtain ⟨fs560, hr560, hrun560, hended560, hRW560⟩ := X555.leaveW (s := s) hS551 (n := T551.heap.size) (by rw [e555]; exact hkr551) (v := some (.int (1 : Int32))) (fun h => by rw [Bd.returns] at h; cases h)
        refine own_done (retN X555 hx (t := .boolean) Bd.returns (by simp) (hb hby at_211) hr560) hrun560 hended560 ⟨_, _, rfl, ?_, hRW560.1, hRW560.2.1, hRW560.2.2.1, hRW560.2.2.2.mono (by decide) (by decide)⟩
        show Q0 Z p1 p2 p3 p4 p5 p6 h0 n0 _ T555.heap _
        rw [e555]
        exact ⟨rfl, N555⟩
    · show own_Fin _ _ _ _ (T550.setTop (mkF m 52 #[iv p1, iv p2, iv p3, iv p4, iv p5, iv p6, rv b_546, iv (Int32.ofNat (N_546)), rv b549, .unset, .unset, .unset, .unset] []))
      refine own_gk (XS.aload Xr550.here hx rfl (hb hby at_52) rfl rfl) ?_
      obtain ⟨_, _, ⟨T561, L561, k561, n561⟩, -, X561, hs2561, hgr561, ⟨Lc561, hQ561, l561, y561, z561⟩, st561⟩ := callSS Xr550 hx (y := own_y5) hown550 (mvT hZ550 (own_h hw 26 rfl)) (mvT hZ550 (own_h hw 27 rfl)) (mvT hZ550 (own_h hw 28 rfl)) (mvT hZ550 (own_h hw 29 rfl)) (by decide) (own_backKn (W := 0) (rmq2 l Z a0 hw [] b549 N_546 ff T550.heap T550.heap.size (Nat.le_refl _) r550_0 hch (show own_Old Z T550.heap.size T550.heap from ⟨Nat.le_trans Od550.1 Z550, Od550.2⟩) hST hcw hh38 hh44 rfl (by omega) (by omega)) hZ550 (own_h hw 29 rfl) (own_h hw 28 rfl) (by decide) (by decide)) (g := (mkF m 54 #[iv p1, iv p2, iv p3, iv p4, iv p5, iv p6, rv b_546, iv (Int32.ofNat (N_546)), rv b549, .unset, .unset, .unset, .unset] [(.ref b549)])) rfl (by rw [hml]; rfl) (argsL := [(.ref b549)]) (rest := []) (lenOf pd__28_Ljava_2f_lang_2f_String_3b__29_Ljava_2f_lang_2f_String_3b_ rfl) rfl (by show 2 * 0 + _ ≤ _; exact Nat.le_of_eq rfl) (hb hby at_54) (fun _ hv => ⟨rfl, rfl, (by decide : 4 + 15 ≤ _), (by decide : 253 + 1248 ≤ _), own_K.warm hK550 hv⟩)
      dsimp only [Pt.U, Pt.locs, Pt.cells, Pt.slots] at X561 l561 y561 z561 st561 hQ561 hs2561 hgr561
      subst l561 y561 z561
      obtain ⟨Xr561, hS561, hZ561, hown561⟩ := rebS hS550 (show T550.heap.size ≤ T550.heap.size from hkr550) X561 hs2561 hgr561 hZ550 hown550
      refine own_go st561 ?_
      obtain ⟨r_561, rfl, Nq561, K561, g_r_561, sb_r_561, r561_0⟩ := hQ561
      have ne_b_546_r_561 : b_546 ≠ r_561 := Nat.ne_of_lt (Nat.lt_of_lt_of_le V_j548_550.lt sb_r_561)
      have ne_b549_r_561 : b549 ≠ r_561 := Nat.ne_of_lt (Nat.lt_of_lt_of_le E_b549_550.lt sb_r_561)
      have Od561 := Od550.keep K561 all0
      have V_j548_561 := V_j548_550.keep K561 nin0
      have E_b549_561 := E_b549_550.keep K561
      have Z561 : n0 ≤ T561.heap.size := Nat.le_trans Z550 K561.1
      have hk561 : T550.heap.size ≤ T561.heap.size := Nat.le_trans hkr550 K561.1
      have E_r_561 := r561_0.1
      have hkr561 : T561.heap.size ≤ T561.heap.size := Nat.le_refl _
      have N561 := Fr.app N550 (own_frm Z550 Nq561)
      refine own_gk (XS.astore Xr561.here hx rfl (hb hby at_57) rfl rfl rfl) ?_
      refine own_gk (XS.iload Xr561.here hx rfl (hb hby at_59) rfl) ?_
      refine own_gk (XS.bipush Xr561.here hx rfl (hb hby at_61)) ?_
      show own_Fin _ _ _ _ (T561.setTop (mkF m 63 #[iv p1, iv p2, iv p3, iv p4, iv p5, iv p6, rv b_546, iv (Int32.ofNat (N_546)), rv b549, rv r_561, .unset, .unset, .unset] [(.int (40 : Int32)), (.int (Int32.ofNat (N_546)))]))
      obtain ⟨_, T562, Lc562, X562, hQ562, st562⟩ := own_callS Xr561 hx hZ561 hown561 (own_h hw 143 rfl) (own_h hw 139 rfl) (own_h hw 140 rfl) (own_h hw 141 rfl) (by decide) (rmmn2 l Z a0 hw [] N_546 40 T561.heap n0 Z561 (by omega) (by decide) (by omega)) (W := 0) (by decide) (by decide) (g := (mkF m 63 #[iv p1, iv p2, iv p3, iv p4, iv p5, iv p6, rv b_546, iv (Int32.ofNat (N_546)), rv b549, rv r_561, .unset, .unset, .unset] [(.int (40 : Int32)), (.int (Int32.ofNat (N_546)))])) rfl (by rw [hml]; rfl) (argsL := [(.int (Int32.ofNat (N_546))), (.int (40 : Int32))]) (rest := []) (lenOf pd__28_II_29_I rfl) rfl (Nat.le_of_eq rfl) (hb hby at_63) rfl rfl (by decide) (by decide)
      obtain ⟨rfl, Nq562, e562⟩ := hQ562
      refine own_go st562 ?_
      have N562 := Fr.app N561 Nq562
      refine own_gk (XS.istore X562.here hx rfl (hb hby at_66) rfl rfl) ?_
      refine own_gk (XS.iload X562.here hx rfl (hb hby at_68) rfl) ?_
      refine own_gk (XS.bipush X562.here hx rfl (hb hby at_70)) ?_
      refine own_gk (XS.icmpYes X562.here hx rfl (pc0 := 72) (pc' := 82) rfl (hb hby at_72) rfl (tlt (show (40 : Int32) < (Int32.ofNat (N_546)) from ((own_ltN (a := 40) (b := N_546) (by omega) (by omega)).mpr (by omega)))).2.2.1 (by decide) (by decide)) ?_
      show own_Fin _ _ _ _ (T562.setTop (mkF m 82 #[iv p1, iv p2, iv p3, iv p4, iv p5, iv p6, rv b_546, iv (Int32.ofNat (N_546)), rv b549, rv r_561, iv (Int32.ofNat (40)), .unset, .unset] []))
      refine own_gk (XS.bipush X562.here hx rfl (hb hby at_82)) ?_
      refine own_gk (XS.istore X562.here hx rfl (hb hby at_84) rfl rfl) ?_
      refine own_gk (XS.aload X562.here hx rfl (hb hby at_86) rfl rfl) ?_
      obtain ⟨_, T563, Lc563, X563, hQ563, st563⟩ := own_callV X562 hx hZ561 E_r_561 hown561 (own_h hw 144 rfl) (own_h hw 31 rfl) (notFace_of_selects (args := #[]) (mvT hZ561 (own_h hw 33 rfl))) (own_h hw 33 rfl) (own_h hw 32 rfl) (own_h hw 7 rfl) (own_h hw 34 rfl) (by decide) (rmlen l Z a0 hw [] r_561 (1 + 40 + 4) (own_q2 ff) T561.heap n0 Z561 r561_0 Od561 hST (by omega)) (W := 0) (by decide) (by decide) (g := (mkF m 88 #[iv p1, iv p2, iv p3, iv p4, iv p5, iv p6, rv b_546, iv (Int32.ofNat (N_546)), rv b549, rv r_561, iv (Int32.ofNat (40)), iv (45 : Int32), .unset] [(.ref r_561)])) rfl (by rw [hml]; rfl) (argsL := []) (rest := []) (lenOf pd__28__29_I rfl) rfl (Nat.le_of_eq rfl) (hb hby at_88) rfl e562 (by decide) (by decide)
      obtain ⟨rfl, Nq563, e563⟩ := hQ563
      refine own_go st563 ?_
      have N563 := Fr.app N562 Nq563
      refine own_gk (XS.iload X563.here hx rfl (hb hby at_91) rfl) ?_
      show own_Fin _ _ _ _ (T563.setTop (mkF m 93 #[iv p1, iv p2, iv p3, iv p4, iv p5, iv p6, rv b_546, iv (Int32.ofNat (N_546)), rv b549, rv r_561, iv (Int32.ofNat (40)), iv (45 : Int32), .unset] [(.int (45 : Int32)), (.int (Int32.ofNat ((1 + 40 + 4))))]))
      refine own_gk (XS.icmpYes X563.here hx rfl (pc0 := 93) (pc' := 98) rfl (hb hby at_93) rfl (teq (show (Int32.ofNat ((1 + 40 + 4))) = (45 : Int32) from ((own_eqN (a := (1 + 40 + 4)) (b := 45) (by omega) (by omega)).mpr (by omega)))).1 (by decide) (by decide)) ?_
      refine own_gk (XS.aload X563.here hx rfl (hb hby at_98) rfl rfl) ?_
      refine own_gk (XS.iconst X563.here hx rfl (hb hby at_100)) ?_
      obtain ⟨_, T564, Lc564, X564, hQ564, st564⟩ := own_callV X563 hx hZ561 E_r_561 hown561 (own_h hw 145 rfl) (own_h hw 146 rfl) (notFace_of_selects (args := #[]) (mvT hZ561 (own_h hw 148 rfl))) (own_h hw 148 rfl) (own_h hw 147 rfl) (own_h hw 7 rfl) (own_h hw 149 rfl) (by decide) (rmcat l Z a0 hw [] r_561 0 (1 + 40 + 4) (own_q2 ff) T561.heap n0 Z561 r561_0 Od561 hST (by omega) (by omega) (own_q2c hch)) (W := 0) (by decide) (by decide) (g := (mkF m 101 #[iv p1, iv p2, iv p3, iv p4, iv p5, iv p6, rv b_546, iv (Int32.ofNat (N_546)), rv b549, rv r_561, iv (Int32.ofNat (40)), iv (45 : Int32), .unset] [(.int (0 : Int32)), (.ref r_561)])) rfl (by rw [hml]; rfl) (argsL := [(.int (0 : Int32))]) (rest := []) (lenOf pd__28_I_29_C rfl) rfl (Nat.le_of_eq rfl) (hb hby at_101) rfl e563 (by decide) (by decide)
      obtain ⟨rfl, Nq564, e564⟩ := hQ564
      refine own_go st564 ?_
      have N564 := Fr.app N563 Nq564
      refine own_gk (XS.bipush X564.here hx rfl (hb hby at_104)) ?_
      show own_Fin _ _ _ _ (T564.setTop (mkF m 106 #[iv p1, iv p2, iv p3, iv p4, iv p5, iv p6, rv b_546, iv (Int32.ofNat (N_546)), rv b549, rv r_561, iv (Int32.ofNat (40)), iv (45 : Int32), .unset] [(.int (39 : Int32)), (.int ((own_q2 ff) 0))]))
      refine own_gk (XS.icmpYes X564.here hx rfl (pc0 := 106) (pc' := 111) rfl (hb hby at_106) rfl (teq (show ((own_q2 ff) 0) = (39 : Int32) from own_q2_0 _)).1 (by decide) (by decide)) ?_
      refine own_gk (XS.aload X564.here hx rfl (hb hby at_111) rfl rfl) ?_
      refine own_gk (XS.iload X564.here hx rfl (hb hby at_113) rfl) ?_
      refine own_gk (XS.iconst X564.here hx rfl (hb hby at_115)) ?_
      refine own_gk (XS.isub X564.here hx rfl (hb hby at_116) rfl) ?_
      show own_Fin _ _ _ _ (T564.setTop (mkF m 117 #[iv p1, iv p2, iv p3, iv p4, iv p5, iv p6, rv b_546, iv (Int32.ofNat (N_546)), rv b549, rv r_561, iv (Int32.ofNat (40)), iv (45 : Int32), .unset] [(.int (44 : Int32)), (.ref r_561)]))
      obtain ⟨_, T565, Lc565, X565, hQ565, st565⟩ := own_callV X564 hx hZ561 E_r_561 hown561 (own_h hw 145 rfl) (own_h hw 146 rfl) (notFace_of_selects (args := #[]) (mvT hZ561 (own_h hw 148 rfl))) (own_h hw 148 rfl) (own_h hw 147 rfl) (own_h hw 7 rfl) (own_h hw 149 rfl) (by decide) (rmcat l Z a0 hw [] r_561 44 (1 + 40 + 4) (own_q2 ff) T561.heap n0 Z561 r561_0 Od561 hST (by omega) (by omega) (own_q2c hch)) (W := 0) (by decide) (by decide) (g := (mkF m 117 #[iv p1, iv p2, iv p3, iv p4, iv p5, iv p6, rv b_546, iv (Int32.ofNat (N_546)), rv b549, rv r_561, iv (Int32.ofNat (40)), iv (45 : Int32), .unset] [(.int (44 : Int32)), (.ref r_561)])) rfl (by rw [hml]; rfl) (argsL := [(.int (44 : Int32))]) (rest := []) (lenOf pd__28_I_29_C rfl) rfl (Nat.le_of_eq rfl) (hb hby at_117) rfl e564 (by decide) (by decide)
      obtain ⟨rfl, Nq565, e565⟩ := hQ565
      refine own_go st565 ?_
      have N565 := Fr.app N564 Nq565
      refine own_gk (XS.bipush X565.here hx rfl (hb hby at_120)) ?_
      refine own_gk (XS.icmpYes X565.here hx rfl (pc0 := 122) (pc' := 127) rfl (hb hby at_122) rfl (teq (show ((own_q2 ff) 44) = (39 : Int32) from own_q2_44 _)).1 (by decide) (by decide)) ?_
      refine own_gk (XS.iload X565.here hx rfl (hb hby at_127) rfl) ?_
      refine own_gk (XS.bipush X565.here hx rfl (hb hby at_129)) ?_
      show own_Fin _ _ _ _ (T565.setTop (mkF m 131 #[iv p1, iv p2, iv p3, iv p4, iv p5, iv p6, rv b_546, iv (Int32.ofNat (N_546)), rv b549, rv r_561, iv (Int32.ofNat (40)), iv (45 : Int32), .unset] [(.int (40 : Int32)), (.int (Int32.ofNat (N_546)))]))
      refine own_gk (XS.icmpNo X565.here hx rfl (hb hby at_131) rfl (tlt (show (40 : Int32) < (Int32.ofNat (N_546)) from ((own_ltN (a := 40) (b := N_546) (by omega) (by omega)).mpr (by omega)))).2.2.2) ?_
      refine own_gk (XS.aload X565.here hx rfl (hb hby at_134) rfl rfl) ?_
      refine own_gk (XS.bipush X565.here hx rfl (hb hby at_136)) ?_
      obtain ⟨_, T566, Lc566, X566, hQ566, st566⟩ := own_callV X565 hx hZ561 E_r_561 hown561 (own_h hw 145 rfl) (own_h hw 146 rfl) (notFace_of_selects (args := #[]) (mvT hZ561 (own_h hw 148 rfl))) (own_h hw 148 rfl) (own_h hw 147 rfl) (own_h hw 7 rfl) (own_h hw 149 rfl) (by decide) (rmcat l Z a0 hw [] r_561 41 (1 + 40 + 4) (own_q2 ff) T561.heap n0 Z561 r561_0 Od561 hST (by omega) (by omega) (own_q2c hch)) (W := 0) (by decide) (by decide) (g := (mkF m 138 #[iv p1, iv p2, iv p3, iv p4, iv p5, iv p6, rv b_546, iv (Int32.ofNat (N_546)), rv b549, rv r_561, iv (Int32.ofNat (40)), iv (45 : Int32), .unset] [(.int (41 : Int32)), (.ref r_561)])) rfl (by rw [hml]; rfl) (argsL := [(.int (41 : Int32))]) (rest := []) (lenOf pd__28_I_29_C rfl) rfl (Nat.le_of_eq rfl) (hb hby at_138) rfl e565 (by decide) (by decide)
      obtain ⟨rfl, Nq566, e566⟩ := hQ566
      refine own_go st566 ?_
      have N566 := Fr.app N565 Nq566
      refine own_gk (XS.bipush X566.here hx rfl (hb hby at_141)) ?_
      show own_Fin _ _ _ _ (T566.setTop (mkF m 143 #[iv p1, iv p2, iv p3, iv p4, iv p5, iv p6, rv b_546, iv (Int32.ofNat (N_546)), rv b549, rv r_561, iv (Int32.ofNat (40)), iv (45 : Int32), .unset] [(.int (46 : Int32)), (.int ((own_q2 ff) 41))]))
      refine own_gk (XS.icmpYes X566.here hx rfl (pc0 := 143) (pc' := 148) rfl (hb hby at_143) rfl (teq (show ((own_q2 ff) 41) = (46 : Int32) from own_q2_41 _)).1 (by decide) (by decide)) ?_
      refine own_gk (XS.aload X566.here hx rfl (hb hby at_148) rfl rfl) ?_
      refine own_gk (XS.bipush X566.here hx rfl (hb hby at_150)) ?_
      obtain ⟨_, T567, Lc567, X567, hQ567, st567⟩ := own_callV X566 hx hZ561 E_r_561 hown561 (own_h hw 145 rfl) (own_h hw 146 rfl) (notFace_of_selects (args := #[]) (mvT hZ561 (own_h hw 148 rfl))) (own_h hw 148 rfl) (own_h hw 147 rfl) (own_h hw 7 rfl) (own_h hw 149 rfl) (by decide) (rmcat l Z a0 hw [] r_561 42 (1 + 40 + 4) (own_q2 ff) T561.heap n0 Z561 r561_0 Od561 hST (by omega) (by omega) (own_q2c hch)) (W := 0) (by decide) (by decide) (g := (mkF m 152 #[iv p1, iv p2, iv p3, iv p4, iv p5, iv p6, rv b_546, iv (Int32.ofNat (N_546)), rv b549, rv r_561, iv (Int32.ofNat (40)), iv (45 : Int32), .unset] [(.int (42 : Int32)), (.ref r_561)])) rfl (by rw [hml]; rfl) (argsL := [(.int (42 : Int32))]) (rest := []) (lenOf pd__28_I_29_C rfl) rfl (Nat.le_of_eq rfl) (hb hby at_152) rfl e566 (by decide) (by decide)
      obtain ⟨rfl, Nq567, e567⟩ := hQ567
      refine own_go st567 ?_
      have N567 := Fr.app N566 Nq567
      refine own_gk (XS.bipush X567.here hx rfl (hb hby at_155)) ?_
      show own_Fin _ _ _ _ (T567.setTop (mkF m 157 #[iv p1, iv p2, iv p3, iv p4, iv p5, iv p6, rv b_546, iv (Int32.ofNat (N_546)), rv b549, rv r_561, iv (Int32.ofNat (40)), iv (45 : Int32), .unset] [(.int (46 : Int32)), (.int ((own_q2 ff) 42))]))
      refine own_gk (XS.icmpYes X567.here hx rfl (pc0 := 157) (pc' := 162) rfl (hb hby at_157) rfl (teq (show ((own_q2 ff) 42) = (46 : Int32) from own_q2_42 _)).1 (by decide) (by decide)) ?_
      refine own_gk (XS.aload X567.here hx rfl (hb hby at_162) rfl rfl) ?_
      refine own_gk (XS.bipush X567.here hx rfl (hb hby at_164)) ?_
      obtain ⟨_, T568, Lc568, X568, hQ568, st568⟩ := own_callV X567 hx hZ561 E_r_561 hown561 (own_h hw 145 rfl) (own_h hw 146 rfl) (notFace_of_selects (args := #[]) (mvT hZ561 (own_h hw 148 rfl))) (own_h hw 148 rfl) (own_h hw 147 rfl) (own_h hw 7 rfl) (own_h hw 149 rfl) (by decide) (rmcat l Z a0 hw [] r_561 43 (1 + 40 + 4) (own_q2 ff) T561.heap n0 Z561 r561_0 Od561 hST (by omega) (by omega) (own_q2c hch)) (W := 0) (by decide) (by decide) (g := (mkF m 166 #[iv p1, iv p2, iv p3, iv p4, iv p5, iv p6, rv b_546, iv (Int32.ofNat (N_546)), rv b549, rv r_561, iv (Int32.ofNat (40)), iv (45 : Int32), .unset] [(.int (43 : Int32)), (.ref r_561)])) rfl (by rw [hml]; rfl) (argsL := [(.int (43 : Int32))]) (rest := []) (lenOf pd__28_I_29_C rfl) rfl (Nat.le_of_eq rfl) (hb hby at_166) rfl e567 (by decide) (by decide)
      obtain ⟨rfl, Nq568, e568⟩ := hQ568
      refine own_go st568 ?_
      have N568 := Fr.app N567 Nq568
      refine own_gk (XS.bipush X568.here hx rfl (hb hby at_169)) ?_
      show own_Fin _ _ _ _ (T568.setTop (mkF m 171 #[iv p1, iv p2, iv p3, iv p4, iv p5, iv p6, rv b_546, iv (Int32.ofNat (N_546)), rv b549, rv r_561, iv (Int32.ofNat (40)), iv (45 : Int32), .unset] [(.int (46 : Int32)), (.int ((own_q2 ff) 43))]))
      refine own_gk (XS.icmpYes X568.here hx rfl (pc0 := 171) (pc' := 176) rfl (hb hby at_171) rfl (teq (show ((own_q2 ff) 43) = (46 : Int32) from own_q2_43 _)).1 (by decide) (by decide)) ?_
      refine own_gk (XS.iload X568.here hx rfl (hb hby at_176) rfl) ?_
      refine own_gk (XS.ifNo X568.here hx rfl (hb hby at_178) rfl ((if0 _ _).trans (tlt (show (0 : Int32) < (Int32.ofNat (40)) from ((own_ltN (a := 0) (b := 40) (by omega) (by omega)).mpr (by omega)))).2.2.2)) ?_
      refine own_gk (XS.iload X568.here hx rfl (hb hby at_181) rfl) ?_
      refine own_by (X568.ldcInt hx hown561 (mvT hZ561 (own_h hw 167 rfl)) (g := (mkF m 183 #[iv p1, iv p2, iv p3, iv p4, iv p5, iv p6, rv b_546, iv (Int32.ofNat (N_546)), rv b549, rv r_561, iv (Int32.ofNat (40)), iv (45 : Int32), .unset] [(.int p6)])) rfl (hb hby at_183)) ?_
      show own_Fin _ _ _ _ (T568.setTop (mkF m 185 #[iv p1, iv p2, iv p3, iv p4, iv p5, iv p6, rv b_546, iv (Int32.ofNat (N_546)), rv b549, rv r_561, iv (Int32.ofNat (40)), iv (45 : Int32), .unset] [(.int (2147483647 : Int32)), (.int p6)]))
      refine own_gk (XS.iand X568.here hx rfl (hb hby at_185) rfl) ?_
      refine own_gk (XS.iload X568.here hx rfl (hb hby at_186) rfl) ?_
      refine own_gk (iremM X568 hx rfl (hb hby at_188) rfl (fun q => absurd ((own_eqN (a := 40) (b := 0) (by omega) (by decide)).mp q) (by omega))) ?_
      obtain ⟨i569, hi569, he569⟩ := own_bsrem (p := p6) (n := 40) (by decide) (by omega)
      show own_Fin _ _ _ _ (T568.setTop (mkF m 189 #[iv p1, iv p2, iv p3, iv p4, iv p5, iv p6, rv b_546, iv (Int32.ofNat (N_546)), rv b549, rv r_561, iv (Int32.ofNat (40)), iv (45 : Int32), .unset] [(.int ((p6 &&& (2147483647 : Int32)) % (Int32.ofNat (40))))]))
      rw [show ((p6 &&& (2147483647 : Int32)) % (Int32.ofNat (40))) = (Int32.ofNat (i569)) from he569]
      refine own_gk (XS.istore X568.here hx rfl (hb hby at_189) rfl rfl) ?_
      refine own_gk (XS.aload X568.here hx rfl (hb hby at_191) rfl rfl) ?_
      refine own_gk (XS.iload X568.here hx rfl (hb hby at_193) rfl) ?_
      refine own_gk (XS.iconst X568.here hx rfl (hb hby at_195)) ?_
      show own_Fin _ _ _ _ (T568.setTop (mkF m 196 #[iv p1, iv p2, iv p3, iv p4, iv p5, iv p6, rv b_546, iv (Int32.ofNat (N_546)), rv b549, rv r_561, iv (Int32.ofNat (40)), iv (45 : Int32), iv (Int32.ofNat (i569))] [(.int (1 : Int32)), (.int (Int32.ofNat (i569))), (.ref r_561)]))
      refine own_gk (XS.iadd X568.here hx rfl (hb hby at_196) rfl) ?_
      show own_Fin _ _ _ _ (T568.setTop (mkF m 197 #[iv p1, iv p2, iv p3, iv p4, iv p5, iv p6, rv b_546, iv (Int32.ofNat (N_546)), rv b549, rv r_561, iv (Int32.ofNat (40)), iv (45 : Int32), iv (Int32.ofNat (i569))] [(.int ((Int32.ofNat (i569)) + (1 : Int32))), (.ref r_561)]))
      rw [show ((Int32.ofNat (i569)) + (1 : Int32)) = Int32.ofNat (i569 + 1) from (own_addN i569 1)]
      obtain ⟨_, T570, Lc570, X570, hQ570, st570⟩ := own_callV X568 hx hZ561 E_r_561 hown561 (own_h hw 145 rfl) (own_h hw 146 rfl) (notFace_of_selects (args := #[]) (mvT hZ561 (own_h hw 148 rfl))) (own_h hw 148 rfl) (own_h hw 147 rfl) (own_h hw 7 rfl) (own_h hw 149 rfl) (by decide) (rmcat l Z a0 hw [] r_561 (i569 + 1) (1 + 40 + 4) (own_q2 ff) T561.heap n0 Z561 r561_0 Od561 hST (by omega) (by omega) (own_q2c hch)) (W := 0) (by decide) (by decide) (g := (mkF m 197 #[iv p1, iv p2, iv p3, iv p4, iv p5, iv p6, rv b_546, iv (Int32.ofNat (N_546)), rv b549, rv r_561, iv (Int32.ofNat (40)), iv (45 : Int32), iv (Int32.ofNat (i569))] [(.int (Int32.ofNat (i569 + 1))), (.ref r_561)])) rfl (by rw [hml]; rfl) (argsL := [(.int (Int32.ofNat (i569 + 1)))]) (rest := []) (lenOf pd__28_I_29_C rfl) rfl (Nat.le_of_eq rfl) (hb hby at_197) rfl e568 (by decide) (by decide)
      obtain ⟨rfl, Nq570, e570⟩ := hQ570
      refine own_go st570 ?_
      have N570 := Fr.app N568 Nq570
      refine own_gk (XS.aload X570.here hx rfl (hb hby at_200) rfl rfl) ?_
      refine own_gk (XS.iload X570.here hx rfl (hb hby at_202) rfl) ?_
      obtain ⟨cl571, Ar571, qa571, Sa571, Na571, Ha571, Ga571⟩ := id V_j548_561
      have hin571 : ¬ ((Int32.ofNat (i569)) < 0 ∨ cl571.slots.size ≤ ((Int32.ofNat (i569))).toNatClampNeg) := inb_of Sa571 (own_inb (i := i569) (n := N_546) (by omega) (by omega))
      have hat571 : cl571.slots[((Int32.ofNat (i569))).toNatClampNeg]? = some (.int (ff i569)) := Has.at Ha571 hin571 (own_getV (i := i569) (n := N_546) (by omega) (by omega))
      refine own_by (X570.caload hx (j := (Int32.ofNat (i569))) (v := (.int (ff i569))) (by rw [e570]; exact Ar571.1) (State.isArrayOf_alike hZ561.alike Ar571.2.1) Ar571.2.2 hin571 hat571 (g := (mkF m 204 #[iv p1, iv p2, iv p3, iv p4, iv p5, iv p6, rv b_546, iv (Int32.ofNat (N_546)), rv b549, rv r_561, iv (Int32.ofNat (40)), iv (45 : Int32), iv (Int32.ofNat (i569))] [(.int (Int32.ofNat (i569))), (.ref b_546), (.int ((own_q2 ff) (i569 + 1)))])) rfl rfl (hb hby at_204)) ?_
      show own_Fin _ _ _ _ (T570.setTop (mkF m 205 #[iv p1, iv p2, iv p3, iv p4, iv p5, iv p6, rv b_546, iv (Int32.ofNat (N_546)), rv b549, rv r_561, iv (Int32.ofNat (40)), iv (45 : Int32), iv (Int32.ofNat (i569))] [(.int (ff i569)), (.int ((own_q2 ff) (i569 + 1)))]))
      refine own_gk (XS.icmpYes X570.here hx rfl (pc0 := 205) (pc' := 210) rfl (hb hby at_205) rfl (teq (show ((own_q2 ff) (i569 + 1)) = (ff i569) from own_q2_k _ hi569)).1 (by decide) (by decide)) ?_
      refine own_gk (XS.iconst X570.here hx rfl (hb hby at_210)) ?_
      obtain ⟨fs572, hr572, hrun572, hended572, hRW572⟩ := X570.leaveW (s := s) hS561 (n := T561.heap.size) (by rw [e570]; exact hkr561) (v := some (.int (1 : Int32))) (fun h => by rw [Bd.returns] at h; cases h)
      refine own_done (retN X570 hx (t := .boolean) Bd.returns (by simp) (hb hby at_211) hr572) hrun572 hended572 ⟨_, _, rfl, ?_, hRW572.1, hRW572.2.1, hRW572.2.2.1, hRW572.2.2.2.mono (by decide) (by decide)⟩
      show Q0 Z p1 p2 p3 p4 p5 p6 h0 n0 _ T570.heap _
      rw [e570]
      exact ⟨rfl, N570⟩
  refine own_gk (XS.iload X546.here hx rfl (hb hby at_11) rfl) ?_
  by_cases hpos : 0 < N_546
  · refine own_gk (XS.ifNo X546.here hx rfl (hb hby at_13) rfl ((if0 _ _).trans (tlt (show (0 : Int32) < (Int32.ofNat (N_546)) from ((own_ltN (a := 0) (b := N_546) (by omega) (by omega)).mpr (by omega)))).2.2.2)) ?_
    refine own_gk (XS.aload X546.here hx rfl (hb hby at_16) rfl rfl) ?_
    refine own_gk (XS.iloadN X546.here hx rfl (hb hby at_18) rfl) ?_
    show own_Fin _ _ _ _ (T546.setTop (mkF m 19 #[iv p1, iv p2, iv p3, iv p4, iv p5, iv p6, rv b_546, iv (Int32.ofNat (N_546)), .unset, .unset, .unset, .unset, .unset] [(.int p2), (.ref b_546)]))
    refine own_by (X546.ldcInt hx hown (mvT hZ (own_h hw 167 rfl)) (g := (mkF m 19 #[iv p1, iv p2, iv p3, iv p4, iv p5, iv p6, rv b_546, iv (Int32.ofNat (N_546)), .unset, .unset, .unset, .unset, .unset] [(.int p2), (.ref b_546)])) rfl (hb hby at_19)) ?_
    refine own_gk (XS.iand X546.here hx rfl (hb hby at_21) rfl) ?_
    refine own_gk (XS.iload X546.here hx rfl (hb hby at_22) rfl) ?_
    refine own_gk (iremM X546 hx rfl (hb hby at_24) rfl (fun q => absurd ((own_eqN (a := N_546) (b := 0) (by omega) (by decide)).mp q) (by omega))) ?_
    obtain ⟨i573, hi573, he573⟩ := own_bsrem (p := p2) (n := N_546) hpos (by omega)
    show own_Fin _ _ _ _ (T546.setTop (mkF m 25 #[iv p1, iv p2, iv p3, iv p4, iv p5, iv p6, rv b_546, iv (Int32.ofNat (N_546)), .unset, .unset, .unset, .unset, .unset] [(.int ((p2 &&& (2147483647 : Int32)) % (Int32.ofNat (N_546)))), (.ref b_546)]))
    rw [show ((p2 &&& (2147483647 : Int32)) % (Int32.ofNat (N_546))) = (Int32.ofNat (i573)) from he573]
    refine own_gk (XS.iloadN X546.here hx rfl (hb hby at_25) rfl) ?_
    refine own_gk (XS.i2c X546.here hx rfl (hb hby at_26) rfl) ?_
    obtain ⟨cl574, Ar574, qa574, Sa574, Na574, Ha574, Ga574⟩ := id r546_0
    have hin574 : ¬ ((Int32.ofNat (i573)) < 0 ∨ cl574.slots.size ≤ ((Int32.ofNat (i573))).toNatClampNeg) := inb_of Sa574 (own_inb (i := i573) (n := N_546) (by omega) (by omega))
    obtain ⟨T575, h575, X575, e575, W575, st575⟩ := stC X546 hx hZ rfl Ar574 (j := (Int32.ofNat (i573))) hin574 (g := (mkF m 27 #[iv p1, iv p2, iv p3, iv p4, iv p5, iv p6, rv b_546, iv (Int32.ofNat (N_546)), .unset, .unset, .unset, .unset, .unset] [(.int (p3.toUInt32.toUInt16.toUInt32.toInt32)), (.int (Int32.ofNat (i573))), (.ref b_546)])) rfl rfl (hb hby at_27)
    refine own_by st575 ?_
    have V_b_546_575 : Arv Z h575 b_546 kb_546 .char (Int32.ofNat (N_546)) (List.map Value.int ((own_R ((fun _ => (0 : Int32))) N_546).set ((Int32.ofNat (i573))).toNatClampNeg (nar .char (p3.toUInt32.toUInt16.toUInt32.toInt32)))) (.int (0 : Int32)) := by
      rw [List.map_set]; exact Arv.set Ar574 qa574 Sa574 Na574 Ha574 Ga574 (fits_nar_char (p3.toUInt32.toUInt16.toUInt32.toInt32)) W575 _ rfl (own_inl (i := i573) (n := N_546) (by omega) (by omega))
    have Od575 := Od546.wr W575 g_b_546
    have N575 := Fr.snoc X575 N546 g_b_546
    have Z575 : n0 ≤ h575.size := Nat.le_trans Z546 (Keep.of_wr W575).1
    have hk575 : 0 ≤ h575.size := Nat.le_trans hk546 (Keep.of_wr W575).1
    have V_b_546_u576 : Arv Z h575 b_546 kb_546 .char (Int32.ofNat (N_546)) (List.map Value.int (own_R (own_up ((fun _ => (0 : Int32))) i573 (nar .char (p3.toUInt32.toUInt16.toUInt32.toInt32))) N_546)) (.int (0 : Int32)) := own_arvm V_b_546_575 (own_setR (f := (fun _ => (0 : Int32))) (n := N_546) (i := i573) (z := (nar .char (p3.toUInt32.toUInt16.toUInt32.toInt32))) (by omega))
    refine own_gk (XS.aload X575.here hx rfl (hb hby at_28) rfl rfl) ?_
    show own_Fin _ _ _ _ (T575.setTop (mkF m 30 #[iv p1, iv p2, iv p3, iv p4, iv p5, iv p6, rv b_546, iv (Int32.ofNat (N_546)), .unset, .unset, .unset, .unset, .unset] [(.ref b_546)]))
    refine own_gk (XS.iloadN X575.here hx rfl (hb hby at_30) rfl) ?_
    refine own_by (X575.ldcInt hx hown (mvT hZ (own_h hw 167 rfl)) (g := (mkF m 31 #[iv p1, iv p2, iv p3, iv p4, iv p5, iv p6, rv b_546, iv (Int32.ofNat (N_546)), .unset, .unset, .unset, .unset, .unset] [(.int p4), (.ref b_546)])) rfl (hb hby at_31)) ?_
    refine own_gk (XS.iand X575.here hx rfl (hb hby at_33) rfl) ?_
    refine own_gk (XS.iload X575.here hx rfl (hb hby at_34) rfl) ?_
    refine own_gk (iremM X575 hx rfl (hb hby at_36) rfl (fun q => absurd ((own_eqN (a := N_546) (b := 0) (by omega) (by decide)).mp q) (by omega))) ?_
    show own_Fin _ _ _ _ (T575.setTop (mkF m 37 #[iv p1, iv p2, iv p3, iv p4, iv p5, iv p6, rv b_546, iv (Int32.ofNat (N_546)), .unset, .unset, .unset, .unset, .unset] [(.int ((p4 &&& (2147483647 : Int32)) % (Int32.ofNat (N_546)))), (.ref b_546)]))
    obtain ⟨i577, hi577, he577⟩ := own_bsrem (p := p4) (n := N_546) hpos (by omega)
    show own_Fin _ _ _ _ (T575.setTop (mkF m 37 #[iv p1, iv p2, iv p3, iv p4, iv p5, iv p6, rv b_546, iv (Int32.ofNat (N_546)), .unset, .unset, .unset, .unset, .unset] [(.int ((p4 &&& (2147483647 : Int32)) % (Int32.ofNat (N_546)))), (.ref b_546)]))
    rw [show ((p4 &&& (2147483647 : Int32)) % (Int32.ofNat (N_546))) = (Int32.ofNat (i577)) from he577]
    refine own_gk (XS.iload X575.here hx rfl (hb hby at_37) rfl) ?_
    refine own_gk (XS.i2c X575.here hx rfl (hb hby at_39) rfl) ?_
    obtain ⟨cl578, Ar578, qa578, Sa578, Na578, Ha578, Ga578⟩ := id V_b_546_u576
    have hin578 : ¬ ((Int32.ofNat (i577)) < 0 ∨ cl578.slots.size ≤ ((Int32.ofNat (i577))).toNatClampNeg) := inb_of Sa578 (own_inb (i := i577) (n := N_546) (by omega) (by omega))
    obtain ⟨T579, h579, X579, e579, W579, st579⟩ := stC X575 hx hZ e575 Ar578 (j := (Int32.ofNat (i577))) hin578 (g := (mkF m 40 #[iv p1, iv p2, iv p3, iv p4, iv p5, iv p6, rv b_546, iv (Int32.ofNat (N_546)), .unset, .unset, .unset, .unset, .unset] [(.int (p5.toUInt32.toUInt16.toUInt32.toInt32)), (.int (Int32.ofNat (i577))), (.ref b_546)])) rfl rfl (hb hby at_40)
    refine own_by st579 ?_
    have V_b_546_579 : Arv Z h579 b_546 kb_546 .char (Int32.ofNat (N_546)) (List.map Value.int ((own_R (own_up ((fun _ => (0 : Int32))) i573 (nar .char (p3.toUInt32.toUInt16.toUInt32.toInt32))) N_546).set ((Int32.ofNat (i577))).toNatClampNeg (nar .char (p5.toUInt32.toUInt16.toUInt32.toInt32)))) (.int (0 : Int32)) := by
      rw [List.map_set]; exact Arv.set Ar578 qa578 Sa578 Na578 Ha578 Ga578 (fits_nar_char (p5.toUInt32.toUInt16.toUInt32.toInt32)) W579 _ rfl (own_inl (i := i577) (n := N_546) (by omega) (by omega))
    have Od579 := Od575.wr W579 g_b_546
    have N579 := Fr.snoc X579 N575 g_b_546
    have Z579 : n0 ≤ h579.size := Nat.le_trans Z575 (Keep.of_wr W579).1
    have hk579 : 0 ≤ h579.size := Nat.le_trans hk575 (Keep.of_wr W579).1
    have V_b_546_u580 : Arv Z h579 b_546 kb_546 .char (Int32.ofNat (N_546)) (List.map Value.int (own_R (own_up (own_up ((fun _ => (0 : Int32))) i573 (nar .char (p3.toUInt32.toUInt16.toUInt32.toInt32))) i577 (nar .char (p5.toUInt32.toUInt16.toUInt32.toInt32))) N_546)) (.int (0 : Int32)) := own_arvm V_b_546_579 (own_setR (f := own_up ((fun _ => (0 : Int32))) i573 (nar .char (p3.toUInt32.toUInt16.toUInt32.toInt32))) (n := N_546) (i := i577) (z := (nar .char (p5.toUInt32.toUInt16.toUInt32.toInt32))) (by omega))
    exact hj548 T579 _ h579 (own_up (own_up ((fun _ => (0 : Int32))) i573 (nar .char (p3.toUInt32.toUInt16.toUInt32.toInt32))) i577 (nar .char (p5.toUInt32.toUInt16.toUInt32.toInt32))) X579 e579 N579 Z579 Od579 V_b_546_u580 (own_chup (own_chup own_ch0 (own_chc _)) (own_chc _))
  · refine own_gk (XS.ifYes X546.here hx rfl (pc0 := 13) (pc' := 41) rfl (hb hby at_13) rfl ((if0 _ _).trans (flt (show ¬ ((0 : Int32) < (Int32.ofNat (N_546))) from (fun q => absurd ((own_ltN (a := 0) (b := N_546) (by omega) (by omega)).mp q) (by omega)))).2.2.2) (by decide) (by decide)) ?_
    exact hj548 T546 _ T546.heap ((fun _ => (0 : Int32))) X546 rfl N546 Z546 Od546 r546_0 own_ch0
theorem own_eqw {t : Term} {n : Int32} {args : Array Value} {s : State} (h : (Cond.eq t (.int n)).before args s = true) : t.eval args s none [] s = some (.int n) := by
  simp only [Cond.before, Cond.holds, Cond.value] at h
  have hn : (Term.int n).eval args s none [] s = some (.int n) := rfl
  rw [hn] at h
  cases hv : t.eval args s none [] s with
  | none => simp [hv] at h
  | some v =>
    cases v with
    | int x => simp [hv] at h; rw [h]
    | _ => simp [hv] at h
theorem own_refc {v : Value} (h : v.isRef = true) : v = Value.null ∨ ∃ sf : Addr, v = Value.ref sf := by
  cases v <;> simp_all [Value.isRef]
set_option maxRecDepth 65536 in
set_option maxHeartbeats 40000000 in
theorem comes_1 {Post : Tables → Env → Array Value → State → Outcome → State → Prop} (hpost : ∀ tb e args s v u, (limb_1_1.after args s (.returned v) u = true ∧ limb_1_2.after args s (.returned v) u = true ∧ True) → ReturnedEndW s (.returned v) u (Jvm.fieldLocs frame_1_writes args s ++ Jvm.arrayLocs frame_1_arrays args s ++ Jvm.staticLocs frame_1_statics s) 48 4672 → Post tb e args s (.returned v) u) :
    ArmFor flags0 classFile x code maxLocals ret World_1 tables_1 room_1 Calls_1 rest_1 Pre_1 Post := by
  intro l hfl _ _ p e ha hc hk s m args below hf hA hF happ hP
  obtain ⟨hcalls, hrest, hpre⟩ := hP
  obtain ⟨-, -, -, hnamed, -, -, -, hat⟩ := (Spec.applies_iff hf).mp happ
  obtain ⟨hg, hn⟩ := and_e (Cond.before_iff.mp (show (Jvm.Cond.and given_1 narrow_1).before args s = true from hpre))
  obtain ⟨gg1, gg2⟩ := and_e hg
  obtain ⟨gg3, gg4⟩ := and_e gg2
  obtain ⟨gg5, gg6⟩ := and_e gg4
  obtain ⟨gg7, gg8⟩ := and_e gg6
  obtain ⟨gg9, gg10⟩ := and_e gg8
  obtain ⟨gg11, gg12⟩ := and_e gg10
  obtain ⟨w0, w1, w2, w3, w4, w5, rfl⟩ : ∃ w0 w1 w2 w3 w4 w5 : Value, args = #[w0, w1, w2, w3, w4, w5] := by
    have hs : args.size = 6 := by simpa [Cond.value, given_1] using gg1
    obtain ⟨L⟩ := args
    match L, hs with
    | [w0, w1, w2, w3, w4, w5], _ => exact ⟨w0, w1, w2, w3, w4, w5, rfl⟩
  have hw := fun d (hd : d ∈ tables_1) => atoms_spec (ws := Jvm.Cond.code x code maxLocals ret :: tables_1) hat d (List.mem_cons_of_mem _ hd)
  obtain ⟨i0, ei0⟩ := is_v gg3
  obtain rfl : w0 = (.int i0) := Option.some.inj ei0
  obtain ⟨i1, ei1⟩ := is_v gg5
  obtain rfl : w1 = (.int i1) := Option.some.inj ei1
  obtain ⟨i2, ei2⟩ := is_v gg7
  obtain rfl : w2 = (.int i2) := Option.some.inj ei2
  obtain ⟨i3, ei3⟩ := is_v gg9
  obtain rfl : w3 = (.int i3) := Option.some.inj ei3
  obtain ⟨i4, ei4⟩ := is_v gg11
  obtain rfl : w4 = (.int i4) := Option.some.inj ei4
  obtain ⟨i5, ei5⟩ := is_v gg12
  obtain rfl : w5 = (.int i5) := Option.some.inj ei5
  have hfit : Fit s := fun {y c} hc i hi => by
    obtain ⟨ha, rfl⟩ := Array.getElem?_eq_some_iff.mp hc
    have q := List.all_eq_true.mp ((Array.all_eq_true_iff_forall_mem.mp hF) _ (Array.getElem_mem ha)) i (List.mem_range.mpr hi)
    simpa [Array.getElem?_eq_getElem hi] using q
  obtain ⟨hsets, hown0⟩ := atoms_of _ (rest_1_c_eq ▸ (show rest_1_c.before _ s = true from hrest))
  obtain ⟨cs, ecs⟩ := is_v (Cond.before_iff.mp (hsets _ (List.mem_of_getElem? (i := 1) rfl)))
  have S_CS := Sta.start ecs (Or.inl (hsets _ (List.mem_of_getElem? (i := 0) rfl)))
  have hcs : ¬ cs = (0 : Int32) := by
    intro q
    subst q
    have h := not_v (Cond.before_iff.mp (hsets _ (List.mem_of_getElem? (i := 2) rfl)))
    have h' := (eq_i ecs (Term.int_eval (0 : Int32)) rfl).symm.trans h
    cases h'
  obtain ⟨sv, esv, hsr⟩ := isR_v (Cond.before_iff.mp (hsets _ (List.mem_of_getElem? (i := 8) rfl)))
  have S_F := Sta.start esv (Or.inl (hsets _ (List.mem_of_getElem? (i := 7) rfl)))
  have S_A := Sta.start (own_eqw (hsets _ (List.mem_of_getElem? (i := 12) rfl))) (Or.inl (hsets _ (List.mem_of_getElem? (i := 11) rfl)))
  have S_H := Sta.start (own_eqw (hsets _ (List.mem_of_getElem? (i := 15) rfl))) (Or.inl (hsets _ (List.mem_of_getElem? (i := 14) rfl)))
  have S_L := Sta.start (own_eqw (hsets _ (List.mem_of_getElem? (i := 18) rfl))) (Or.inl (hsets _ (List.mem_of_getElem? (i := 17) rfl)))
  obtain ⟨n, o, h1, h2, h3, _, L, rfl, ⟨rfl, N⟩, hq⟩ := rm0 l s _ hw tables_1 i0 i1 i2 i3 i4 i5  s.heap s.heap.size (Nat.le_refl _) ⟨Nat.le_refl _, Nat.le_refl _, fun _ _ q => q⟩ ⟨cs, sv, hcs, own_refc hsr, S_A, S_H, S_L, S_CS, S_F⟩ (hcalls.1 _ (List.mem_of_getElem? (i := 2) rfl)) (hsets _ (List.mem_of_getElem? (i := 2) rfl)) (hcalls.1 _ (List.mem_of_getElem? (i := 0) rfl)) (hcalls.1 _ (List.mem_of_getElem? (i := 1) rfl)) p e ha hc hk s m _ below hf ((Spec.applies_iff_loose hf).mp happ).1 ⟨rfl, ⟨State.Warmed39.refl s, rfl⟩, rfl⟩ trivial
  refine ⟨n, _, h1, h2, h3, hpost _ _ _ _ _ _ ⟨Cond.after_iff.mpr rfl, Cond.after_iff.mpr (eq_i res_at (Term.int_eval (1)) rfl), trivial⟩ ⟨hq.1, hq.2.1, hq.2.2.1, (hq.2.2.2.sift fun y hy => Or.inr (N y hy)).mono (by decide) (by decide)⟩⟩
theorem main_1_1 : Claimed_1_1 := comes_1 fun _ _ _ _ _ _ h hF => ⟨h.1, hF⟩
theorem main_1_2 : Claimed_1_2 := comes_1 fun _ _ _ _ _ _ h hF => ⟨h.2.1, hF⟩
end Jvm.Pilot.@@N@@
namespace Jvm.Pilot.@@N@@
open Jvm Jvm.ClassFile Sem Op Lib Jvm.Free Jvm.Stand Jvm.Pilot.@@N@@.Jvm.D
/-! MADE BY PROGRAM (witnessworld.py) out of the Statement's table words and the real class files: 28 classes; the members and pool entries that the words name. The judged class is class 1, her method 2. -/
namespace start1
open Jvm.ClassFile
def u (s : String) : CpInfo := .utf8 (stringToUtf16 s)
/-- a pool by its gaps: so many unusable entries, then the entry; so many at the end -/
def gap : Nat → List CpInfo → List CpInfo
  | 0, r => r
  | n + 1, r => .unusable :: gap n r
def poolList (es : List (Nat × CpInfo)) (last : Nat) : List CpInfo := es.foldr (fun e r => gap e.1 (e.2 :: r)) (gap last [])
def pool (es : List (Nat × CpInfo)) (last : Nat) : Array CpInfo := ⟨poolList es last⟩
def fileOf (pool : Array CpInfo) (this : Nat) (attrs : Array Attribute := #[]) (ms : Array MethodInfo := #[]) (fl : Nat := 33) (sup : Nat := 0) (ifs : Array Nat := #[]) (fds : Array FieldInfo := #[]) : ClassFile where
  minorVersion := 0
  majorVersion := 65
  constantPool := pool
  accessFlags := fl
  thisClass := this
  superClass := sup
  interfaces := ifs
  fields := fds
  methods := ms
  attributes := attrs
def plain (name : String) (sup : Option ClassId) : Class where
  name := name
  kind := .ordinary
  loader := none
  accessFlags := 33
  super := sup
  interfaces := #[]
  cf := none
  fields := #[]
  methods := #[]
  instanceTypes := #[]
  staticTypes := #[]
  resolved := #[]
  callSites := []
  init := .initialized
  statics := none
  mirror := none

def pool0 : Array CpInfo := pool [(5, u "<init>"), (0, u "()V"), (1, .class_ 10), (1, u "java/lang/Object")] 113

def k0c0 : Code := { maxStack := 0, maxLocals := 1, code := object_method_1_code, exceptionTable := #[], attributes := #[] }
def k0m0 : Method := { name := "<init>", desc := "()V", sig := { parameters := [], returnType := none }, accessFlags := 1, code := some k0c0 }
/-- java/lang/Object -/
def k0 : Class := { plain "java/lang/Object" none with
  accessFlags := 33
  interfaces := #[]
  cf := some (fileOf pool0 8 #[] #[{ accessFlags := 1, nameIndex := 5, descriptorIndex := 6, attributes := #[] }] 33 0 #[] #[])
  fields := #[]
  methods := #[k0m0]
  instanceTypes := #[]
  staticTypes := #[]
  resolved := Array.replicate 124 none
  statics := none }

def pool1 : Array CpInfo := pool [(2, .class_ 4), (1, u "java/lang/Object"), (0, u "<init>"), (0, u "()V"), (0, .methodref 8 9), (0, .class_ 10), (0, .nameAndType 11 12), (0, u "com/example/pricefence/pricefence/io/InputExceptionQuotePinLaw"), (0, u "make"), (0, u "(I)[C"), (0, .integer 2147483647), (0, .class_ 15), (0, u "java/lang/String"), (0, .methodref 14 17), (0, .nameAndType 5 18), (0, u "([C)V"), (0, .methodref 20 21), (0, .class_ 22), (0, .nameAndType 23 24), (0, u "com/example/pricefence/pricefence/io/InputException"), (0, u "quote"), (0, u "(Ljava/lang/String;)Ljava/lang/String;"), (0, .methodref 26 27), (0, .class_ 28), (0, .nameAndType 29 30), (0, u "java/lang/Math"), (0, u "min"), (0, u "(II)I"), (0, .methodref 14 32), (0, .nameAndType 33 34), (0, u "length"), (0, u "()I"), (0, .methodref 14 36), (0, .nameAndType 37 38), (0, u "charAt"), (0, u "(I)C"), (3, u "law"), (0, u "(IIIIII)Z")] 4

def k1m0 : Method := { name := "<init>", desc := "()V", sig := { parameters := [], returnType := none }, accessFlags := 2, code := none }
def k1c1 : Code := { maxStack := 2, maxLocals := 2, code := method_2_code, exceptionTable := #[], attributes := #[] }
def k1m1 : Method := { name := "make", desc := "(I)[C", sig := { parameters := [.int], returnType := some (.array .char) }, accessFlags := 10, code := some k1c1 }
def k1c2 : Code := { maxStack := 3, maxLocals := 13, code := code, exceptionTable := #[], attributes := #[] }
def k1m2 : Method := { name := "law", desc := "(IIIIII)Z", sig := { parameters := [.int, .int, .int, .int, .int, .int], returnType := some .boolean }, accessFlags := 9, code := some k1c2 }
/-- com/example/pricefence/pricefence/io/InputExceptionQuotePinLaw -/
def k1 : Class := { plain "com/example/pricefence/pricefence/io/InputExceptionQuotePinLaw" (some 0) with
  accessFlags := 49
  interfaces := #[]
  cf := some (fileOf pool1 8 #[] #[{ accessFlags := 2, nameIndex := 5, descriptorIndex := 6, attributes := #[] }, { accessFlags := 10, nameIndex := 11, descriptorIndex := 12, attributes := #[] }, { accessFlags := 9, nameIndex := 42, descriptorIndex := 43, attributes := #[] }] 49 2 #[] #[])
  fields := #[]
  methods := #[k1m0, k1m1, k1m2]
  instanceTypes := #[]
  staticTypes := #[]
  resolved := Array.replicate 48 none
  statics := none }

def pool2 : Array CpInfo := pool [(1, .class_ 2), (0, u "java/io/Serializable"), (0, .class_ 4), (0, u "java/lang/Object")] 2

/-- java/io/Serializable -/
def k2 : Class := { plain "java/io/Serializable" (some 0) with
  accessFlags := 1537
  interfaces := #[]
  cf := some (fileOf pool2 1 #[] #[] 1537 3 #[] #[])
  fields := #[]
  methods := #[]
  instanceTypes := #[]
  staticTypes := #[]
  resolved := Array.replicate 7 none
  statics := none }

def pool3 : Array CpInfo := pool [(1, .class_ 2), (0, u "java/lang/Comparable"), (0, .class_ 4), (0, u "java/lang/Object")] 7

/-- java/lang/Comparable -/
def k3 : Class := { plain "java/lang/Comparable" (some 0) with
  accessFlags := 1537
  interfaces := #[]
  cf := some (fileOf pool3 1 #[] #[] 1537 3 #[] #[])
  fields := #[]
  methods := #[]
  instanceTypes := #[]
  staticTypes := #[]
  resolved := Array.replicate 12 none
  statics := none }

def pool4 : Array CpInfo := pool [(2, .class_ 4), (1, u "java/lang/CharSequence"), (42, .class_ 48), (0, u "java/lang/CharSequence$1CodePointIterator"), (10, .class_ 60), (0, u "java/lang/CharSequence$1CharIterator"), (5, .class_ 67), (0, u "java/lang/Object")] 63

/-- java/lang/CharSequence -/
def k4 : Class := { plain "java/lang/CharSequence" (some 0) with
  accessFlags := 1537
  interfaces := #[]
  cf := some (fileOf pool4 2 #[.nestMembers #[47, 59]] #[] 1537 66 #[] #[])
  fields := #[]
  methods := #[]
  instanceTypes := #[]
  staticTypes := #[]
  resolved := Array.replicate 131 none
  statics := none }

def pool5 : Array CpInfo := pool [(1, .class_ 2), (0, u "java/lang/constant/Constable"), (0, .class_ 4), (0, u "java/lang/Object")] 6

/-- java/lang/constant/Constable -/
def k5 : Class := { plain "java/lang/constant/Constable" (some 0) with
  accessFlags := 1537
  interfaces := #[]
  cf := some (fileOf pool5 1 #[] #[] 1537 3 #[] #[])
  fields := #[]
  methods := #[]
  instanceTypes := #[]
  staticTypes := #[]
  resolved := Array.replicate 11 none
  statics := none }

def pool6 : Array CpInfo := pool [(1, .class_ 2), (0, u "java/lang/constant/ConstantDesc"), (0, .class_ 4), (0, u "java/lang/Object")] 32

/-- java/lang/constant/ConstantDesc -/
def k6 : Class := { plain "java/lang/constant/ConstantDesc" (some 0) with
  accessFlags := 1537
  interfaces := #[]
  cf := some (fileOf pool6 1 #[] #[] 1537 3 #[] #[])
  fields := #[]
  methods := #[]
  instanceTypes := #[]
  staticTypes := #[]
  resolved := Array.replicate 37 none
  statics := none }

def pool7 : Array CpInfo := pool [(1, .methodref 2 3), (0, .class_ 4), (0, .nameAndType 5 6), (0, u "java/lang/Object"), (0, u "<init>"), (0, u "()V"), (0, .string 8), (0, u ""), (0, .fieldref 10 11), (0, .class_ 12), (0, .nameAndType 13 14), (0, u "java/lang/String"), (0, u "value"), (0, u "[B"), (0, .fieldref 10 16), (0, .nameAndType 17 18), (0, u "coder"), (0, u "B"), (2, u "hash"), (0, u "I"), (2, u "hashIsZero"), (0, u "Z"), (0, .methodref 10 28), (0, .nameAndType 5 29), (0, u "([CIILjava/lang/Void;)V"), (6, u "checkBoundsOffCount"), (0, u "(III)I"), (0, .fieldref 10 39), (0, .nameAndType 40 26), (0, u "COMPACT_STRINGS"), (1, .class_ 44), (1, u "java/lang/StringUTF16"), (0, u "compress"), (1, .methodref 42 48), (0, .nameAndType 49 50), (0, u "coderFromArrayLen"), (0, u "([BI)B"), (3, .methodref 55 56), (0, .class_ 57), (0, .nameAndType 58 59), (0, u "java/util/Arrays"), (0, u "copyOfRange"), (0, u "([BII)[B"), (46, .methodref 107 108), (0, .class_ 109), (0, .nameAndType 110 111), (0, u "java/lang/StringLatin1"), (0, u "inflate"), (0, u "([BI[BII)V"), (30, u "()Z"), (34, .methodref 42 178), (0, .nameAndType 45 179), (0, u "([CII)[B"), (13, .class_ 195), (1, u "java/lang/System"), (15, u "([BB)V"), (0, .methodref 193 213), (0, .nameAndType 214 215), (0, u "arraycopy"), (0, u "(Ljava/lang/Object;ILjava/lang/Object;II)V"), (118, u "()I"), (0, .methodref 10 336), (0, .nameAndType 17 337), (0, u "()B"), (2, u "()[B"), (22, u "([BI)C"), (27, u "(II)V"), (35, u "(I)C"), (61, .methodref 10 490), (0, .nameAndType 5 491), (0, u "(Ljava/lang/AbstractStringBuilder;Ljava/lang/Void;)V"), (0, .methodref 10 493), (0, .nameAndType 494 142), (0, u "isLatin1"), (0, .methodref 107 496), (0, .nameAndType 497 363), (0, u "charAt"), (0, .methodref 42 496), (2, u "checkIndex"), (3, .methodref 10 506), (0, .nameAndType 507 334), (0, u "length"), (5, u "checkFromToIndex"), (7, .methodref 10 522), (0, .nameAndType 523 524), (0, u "checkBoundsBeginEnd"), (0, u "(III)V"), (7, u "getBytes"), (16, .methodref 550 506), (0, .class_ 551), (0, u "java/lang/AbstractStringBuilder"), (0, .methodref 550 553), (0, .nameAndType 554 340), (0, u "getValue"), (20, .class_ 576), (0, u "java/lang/CharSequence"), (22, u "CASE_INSENSITIVE_ORDER"), (0, u "Ljava/util/Comparator;"), (82, u "substring"), (0, u "(II)Ljava/lang/String;"), (0, .methodref 107 686), (0, .nameAndType 687 688), (0, u "newString"), (0, u "([BII)Ljava/lang/String;"), (0, .methodref 42 686), (131, u "([BIB)V"), (188, u "([C)V"), (36, .methodref 550 493), (0, .fieldref 550 1049), (0, .nameAndType 1050 26), (0, u "maybeLatin1"), (2, .fieldref 1054 1055), (0, .class_ 1056), (0, .nameAndType 1057 1058), (0, u "jdk/internal/util/Preconditions"), (0, u "SIOOBE_FORMATTER"), (0, u "Ljava/util/function/BiFunction;"), (0, .methodref 1054 1060), (0, .nameAndType 501 1061), (0, u "(IILjava/util/function/BiFunction;)I"), (0, .methodref 1054 1063), (0, .nameAndType 513 1064), (0, u "(IIILjava/util/function/BiFunction;)I"), (0, .methodref 1054 1066), (0, .nameAndType 1067 1064), (0, u "checkFromIndexSize"), (33, u "serialPersistentFields"), (0, u "[Ljava/io/ObjectStreamField;"), (0, .class_ 1104), (0, u "java/lang/String$CaseInsensitiveComparator"), (1, .class_ 1107), (0, u "java/io/Serializable"), (0, .class_ 1109), (0, u "java/lang/Comparable"), (0, .class_ 1111), (0, u "java/lang/constant/Constable"), (0, .class_ 1113), (0, u "java/lang/constant/ConstantDesc"), (2, u "serialVersionUID"), (0, u "J"), (3, u "REPL"), (0, u "C"), (2, u "LATIN1"), (1, u "UTF16"), (105, u "(Ljava/lang/StringBuilder;)V")] 217

def k7m0 : Method := { name := "<init>", desc := "()V", sig := { parameters := [], returnType := none }, accessFlags := 1, code := none }
def k7c1 : Code := { maxStack := 5, maxLocals := 2, code := jdk_42_method_3_code, exceptionTable := #[], attributes := #[] }
def k7m1 : Method := { name := "<init>", desc := "([C)V", sig := { parameters := [(.array .char)], returnType := none }, accessFlags := 1, code := some k7c1 }
def k7c2 : Code := { maxStack := 3, maxLocals := 2, code := jdk_42_method_53_code, exceptionTable := #[], attributes := #[] }
def k7m2 : Method := { name := "<init>", desc := "(Ljava/lang/StringBuilder;)V", sig := { parameters := [(.object "java/lang/StringBuilder")], returnType := none }, accessFlags := 1, code := some k7c2 }
def k7c3 : Code := { maxStack := 2, maxLocals := 1, code := jdk_42_method_54_code, exceptionTable := #[], attributes := #[] }
def k7m3 : Method := { name := "length", desc := "()I", sig := { parameters := [], returnType := some .int }, accessFlags := 1, code := some k7c3 }
def k7c4 : Code := { maxStack := 2, maxLocals := 2, code := jdk_42_method_56_code, exceptionTable := #[], attributes := #[] }
def k7m4 : Method := { name := "charAt", desc := "(I)C", sig := { parameters := [.int], returnType := some .char }, accessFlags := 1, code := some k7c4 }
def k7c5 : Code := { maxStack := 3, maxLocals := 5, code := jdk_42_method_92_code, exceptionTable := #[], attributes := #[] }
def k7m5 : Method := { name := "substring", desc := "(II)Ljava/lang/String;", sig := { parameters := [.int, .int], returnType := some (.object "java/lang/String") }, accessFlags := 1, code := some k7c5 }
def k7c6 : Code := { maxStack := 5, maxLocals := 4, code := jdk_42_method_147_code, exceptionTable := #[], attributes := #[] }
def k7m6 : Method := { name := "getBytes", desc := "([BIB)V", sig := { parameters := [(.array .byte), .int, .byte], returnType := none }, accessFlags := 0, code := some k7c6 }
def k7c7 : Code := { maxStack := 4, maxLocals := 6, code := jdk_42_method_149_code, exceptionTable := #[], attributes := #[] }
def k7m7 : Method := { name := "<init>", desc := "([CIILjava/lang/Void;)V", sig := { parameters := [(.array .char), .int, .int, (.object "java/lang/Void")], returnType := none }, accessFlags := 2, code := some k7c7 }
def k7c8 : Code := { maxStack := 5, maxLocals := 5, code := jdk_42_method_150_code, exceptionTable := #[], attributes := #[] }
def k7m8 : Method := { name := "<init>", desc := "(Ljava/lang/AbstractStringBuilder;Ljava/lang/Void;)V", sig := { parameters := [(.object "java/lang/AbstractStringBuilder"), (.object "java/lang/Void")], returnType := none }, accessFlags := 0, code := some k7c8 }
def k7c9 : Code := { maxStack := 2, maxLocals := 3, code := jdk_42_method_151_code, exceptionTable := #[], attributes := #[] }
def k7m9 : Method := { name := "<init>", desc := "([BB)V", sig := { parameters := [(.array .byte), .byte], returnType := none }, accessFlags := 0, code := some k7c9 }
def k7c10 : Code := { maxStack := 1, maxLocals := 1, code := jdk_42_method_152_code, exceptionTable := #[], attributes := #[] }
def k7m10 : Method := { name := "coder", desc := "()B", sig := { parameters := [], returnType := some .byte }, accessFlags := 0, code := some k7c10 }
def k7c11 : Code := { maxStack := 1, maxLocals := 1, code := jdk_42_method_154_code, exceptionTable := #[], attributes := #[] }
def k7m11 : Method := { name := "isLatin1", desc := "()Z", sig := { parameters := [], returnType := some .boolean }, accessFlags := 0, code := some k7c11 }
def k7c12 : Code := { maxStack := 3, maxLocals := 2, code := jdk_42_method_155_code, exceptionTable := #[], attributes := #[] }
def k7m12 : Method := { name := "checkIndex", desc := "(II)V", sig := { parameters := [.int, .int], returnType := none }, accessFlags := 8, code := some k7c12 }
def k7c13 : Code := { maxStack := 4, maxLocals := 3, code := jdk_42_method_157_code, exceptionTable := #[], attributes := #[] }
def k7m13 : Method := { name := "checkBoundsOffCount", desc := "(III)I", sig := { parameters := [.int, .int, .int], returnType := some .int }, accessFlags := 8, code := some k7c13 }
def k7c14 : Code := { maxStack := 4, maxLocals := 3, code := jdk_42_method_158_code, exceptionTable := #[], attributes := #[] }
def k7m14 : Method := { name := "checkBoundsBeginEnd", desc := "(III)V", sig := { parameters := [.int, .int, .int], returnType := none }, accessFlags := 8, code := some k7c14 }
/-- java/lang/String -/
def k7 : Class := { plain "java/lang/String" (some 0) with
  accessFlags := 49
  interfaces := #[2, 3, 4, 5, 6]
  cf := some (fileOf pool7 10 #[.nestMembers #[1103]] #[{ accessFlags := 1, nameIndex := 5, descriptorIndex := 6, attributes := #[] }, { accessFlags := 1, nameIndex := 5, descriptorIndex := 1010, attributes := #[] }, { accessFlags := 1, nameIndex := 5, descriptorIndex := 1233, attributes := #[] }, { accessFlags := 1, nameIndex := 507, descriptorIndex := 334, attributes := #[] }, { accessFlags := 1, nameIndex := 497, descriptorIndex := 427, attributes := #[] }, { accessFlags := 1, nameIndex := 683, descriptorIndex := 684, attributes := #[] }, { accessFlags := 0, nameIndex := 532, descriptorIndex := 821, attributes := #[] }, { accessFlags := 2, nameIndex := 5, descriptorIndex := 29, attributes := #[] }, { accessFlags := 0, nameIndex := 5, descriptorIndex := 491, attributes := #[] }, { accessFlags := 0, nameIndex := 5, descriptorIndex := 211, attributes := #[] }, { accessFlags := 0, nameIndex := 17, descriptorIndex := 337, attributes := #[] }, { accessFlags := 0, nameIndex := 494, descriptorIndex := 142, attributes := #[] }, { accessFlags := 8, nameIndex := 501, descriptorIndex := 391, attributes := #[] }, { accessFlags := 8, nameIndex := 36, descriptorIndex := 37, attributes := #[] }, { accessFlags := 8, nameIndex := 523, descriptorIndex := 524, attributes := #[] }] 49 2 #[1106, 1108, 575, 1110, 1112] #[{ accessFlags := 18, nameIndex := 13, descriptorIndex := 14, attributes := #[] }, { accessFlags := 18, nameIndex := 17, descriptorIndex := 18, attributes := #[] }, { accessFlags := 2, nameIndex := 21, descriptorIndex := 22, attributes := #[] }, { accessFlags := 2, nameIndex := 25, descriptorIndex := 26, attributes := #[] }, { accessFlags := 26, nameIndex := 1116, descriptorIndex := 1117, attributes := #[] }, { accessFlags := 24, nameIndex := 40, descriptorIndex := 26, attributes := #[] }, { accessFlags := 26, nameIndex := 1101, descriptorIndex := 1102, attributes := #[] }, { accessFlags := 26, nameIndex := 1121, descriptorIndex := 1122, attributes := #[] }, { accessFlags := 25, nameIndex := 599, descriptorIndex := 600, attributes := #[] }, { accessFlags := 24, nameIndex := 1125, descriptorIndex := 18, attributes := #[] }, { accessFlags := 24, nameIndex := 1127, descriptorIndex := 18, attributes := #[] }])
  fields := #[{ name := "value", type := (.array .byte), accessFlags := 18, slot := 0, constantValue := 0 }, { name := "coder", type := .byte, accessFlags := 18, slot := 1, constantValue := 0 }, { name := "hash", type := .int, accessFlags := 2, slot := 2, constantValue := 0 }, { name := "hashIsZero", type := .boolean, accessFlags := 2, slot := 3, constantValue := 0 }, { name := "serialVersionUID", type := .long, accessFlags := 26, slot := 0, constantValue := 0 }, { name := "COMPACT_STRINGS", type := .boolean, accessFlags := 24, slot := 1, constantValue := 0 }, { name := "serialPersistentFields", type := (.array (.object "java/io/ObjectStreamField")), accessFlags := 26, slot := 2, constantValue := 0 }, { name := "REPL", type := .char, accessFlags := 26, slot := 3, constantValue := 0 }, { name := "CASE_INSENSITIVE_ORDER", type := (.object "java/util/Comparator"), accessFlags := 25, slot := 4, constantValue := 0 }, { name := "LATIN1", type := .byte, accessFlags := 24, slot := 5, constantValue := 0 }, { name := "UTF16", type := .byte, accessFlags := 24, slot := 6, constantValue := 0 }]
  methods := #[k7m0, k7m1, k7m2, k7m3, k7m4, k7m5, k7m6, k7m7, k7m8, k7m9, k7m10, k7m11, k7m12, k7m13, k7m14]
  instanceTypes := #[(.array .byte), .byte, .int, .boolean]
  staticTypes := #[.long, .boolean, (.array (.object "java/io/ObjectStreamField")), .char, (.object "java/util/Comparator"), .byte, .byte]
  resolved := Array.replicate 1451 none
  statics := some 0 }

def pool8 : Array CpInfo := pool [(2, .class_ 4), (1, u "java/lang/Object"), (0, u "<init>"), (0, u "()V"), (1, .class_ 10), (1, u "java/lang/Throwable"), (0, u "cause"), (0, u "Ljava/lang/Throwable;"), (2, u "UNASSIGNED_STACK"), (0, u "[Ljava/lang/StackTraceElement;"), (2, u "stackTrace"), (2, u "SUPPRESSED_SENTINEL"), (0, u "Ljava/util/List;"), (2, u "suppressedExceptions"), (6, u "detailMessage"), (0, u "Ljava/lang/String;"), (58, .class_ 94), (0, u "java/lang/Throwable$WrappedPrintStream"), (6, .class_ 103), (1, u "java/lang/Throwable$PrintStreamOrWriter"), (61, u "$assertionsDisabled"), (0, u "Z"), (26, .class_ 194), (0, u "java/lang/Throwable$WrappedPrintWriter"), (5, u "backtrace"), (0, u "Ljava/lang/Object;"), (9, u "depth"), (0, u "I"), (56, .class_ 271), (1, u "java/lang/Throwable$SentinelHolder"), (32, u "EMPTY_THROWABLE_ARRAY"), (0, u "[Ljava/lang/Throwable;"), (12, .class_ 319), (0, u "java/io/Serializable"), (0, u "serialVersionUID"), (0, u "J"), (5, u "NULL_CAUSE_MESSAGE"), (0, u "SELF_SUPPRESSION_MESSAGE"), (0, u "CAUSE_CAPTION"), (0, u "SUPPRESSED_CAPTION")] 73

def k8m0 : Method := { name := "<init>", desc := "()V", sig := { parameters := [], returnType := none }, accessFlags := 1, code := none }
/-- java/lang/Throwable -/
def k8 : Class := { plain "java/lang/Throwable" (some 0) with
  accessFlags := 33
  interfaces := #[2]
  cf := some (fileOf pool8 8 #[.nestMembers #[193, 93, 101, 269]] #[{ accessFlags := 1, nameIndex := 5, descriptorIndex := 6, attributes := #[] }] 33 2 #[318] #[{ accessFlags := 26, nameIndex := 320, descriptorIndex := 321, attributes := #[] }, { accessFlags := 130, nameIndex := 200, descriptorIndex := 201, attributes := #[] }, { accessFlags := 2, nameIndex := 33, descriptorIndex := 34, attributes := #[] }, { accessFlags := 26, nameIndex := 15, descriptorIndex := 16, attributes := #[] }, { accessFlags := 2, nameIndex := 11, descriptorIndex := 12, attributes := #[] }, { accessFlags := 2, nameIndex := 19, descriptorIndex := 16, attributes := #[] }, { accessFlags := 130, nameIndex := 211, descriptorIndex := 212, attributes := #[] }, { accessFlags := 26, nameIndex := 22, descriptorIndex := 23, attributes := #[] }, { accessFlags := 2, nameIndex := 26, descriptorIndex := 23, attributes := #[] }, { accessFlags := 26, nameIndex := 327, descriptorIndex := 34, attributes := #[] }, { accessFlags := 26, nameIndex := 328, descriptorIndex := 34, attributes := #[] }, { accessFlags := 26, nameIndex := 329, descriptorIndex := 34, attributes := #[] }, { accessFlags := 26, nameIndex := 330, descriptorIndex := 34, attributes := #[] }, { accessFlags := 26, nameIndex := 304, descriptorIndex := 305, attributes := #[] }, { accessFlags := 4120, nameIndex := 165, descriptorIndex := 166, attributes := #[] }])
  fields := #[{ name := "serialVersionUID", type := .long, accessFlags := 26, slot := 0, constantValue := 0 }, { name := "backtrace", type := (.object "java/lang/Object"), accessFlags := 130, slot := 0, constantValue := 0 }, { name := "detailMessage", type := (.object "java/lang/String"), accessFlags := 2, slot := 1, constantValue := 0 }, { name := "UNASSIGNED_STACK", type := (.array (.object "java/lang/StackTraceElement")), accessFlags := 26, slot := 1, constantValue := 0 }, { name := "cause", type := (.object "java/lang/Throwable"), accessFlags := 2, slot := 2, constantValue := 0 }, { name := "stackTrace", type := (.array (.object "java/lang/StackTraceElement")), accessFlags := 2, slot := 3, constantValue := 0 }, { name := "depth", type := .int, accessFlags := 130, slot := 4, constantValue := 0 }, { name := "SUPPRESSED_SENTINEL", type := (.object "java/util/List"), accessFlags := 26, slot := 2, constantValue := 0 }, { name := "suppressedExceptions", type := (.object "java/util/List"), accessFlags := 2, slot := 5, constantValue := 0 }, { name := "NULL_CAUSE_MESSAGE", type := (.object "java/lang/String"), accessFlags := 26, slot := 3, constantValue := 0 }, { name := "SELF_SUPPRESSION_MESSAGE", type := (.object "java/lang/String"), accessFlags := 26, slot := 4, constantValue := 0 }, { name := "CAUSE_CAPTION", type := (.object "java/lang/String"), accessFlags := 26, slot := 5, constantValue := 0 }, { name := "SUPPRESSED_CAPTION", type := (.object "java/lang/String"), accessFlags := 26, slot := 6, constantValue := 0 }, { name := "EMPTY_THROWABLE_ARRAY", type := (.array (.object "java/lang/Throwable")), accessFlags := 26, slot := 7, constantValue := 0 }, { name := "$assertionsDisabled", type := .boolean, accessFlags := 4120, slot := 8, constantValue := 0 }]
  methods := #[k8m0]
  instanceTypes := #[(.object "java/lang/Object"), (.object "java/lang/String"), (.object "java/lang/Throwable"), (.array (.object "java/lang/StackTraceElement")), .int, (.object "java/util/List")]
  staticTypes := #[.long, (.array (.object "java/lang/StackTraceElement")), (.object "java/util/List"), (.object "java/lang/String"), (.object "java/lang/String"), (.object "java/lang/String"), (.object "java/lang/String"), (.array (.object "java/lang/Throwable")), .boolean]
  resolved := Array.replicate 404 none
  statics := none }

def pool9 : Array CpInfo := pool [(2, .class_ 4), (1, u "java/lang/Throwable"), (0, u "<init>"), (0, u "()V"), (12, .class_ 20), (0, u "java/lang/Exception"), (0, u "serialVersionUID"), (0, u "J")] 17

def k9m0 : Method := { name := "<init>", desc := "()V", sig := { parameters := [], returnType := none }, accessFlags := 1, code := none }
/-- java/lang/Exception -/
def k9 : Class := { plain "java/lang/Exception" (some 8) with
  accessFlags := 33
  interfaces := #[]
  cf := some (fileOf pool9 19 #[] #[{ accessFlags := 1, nameIndex := 5, descriptorIndex := 6, attributes := #[] }] 33 2 #[] #[{ accessFlags := 24, nameIndex := 21, descriptorIndex := 22, attributes := #[] }])
  fields := #[{ name := "serialVersionUID", type := .long, accessFlags := 24, slot := 0, constantValue := 0 }]
  methods := #[k9m0]
  instanceTypes := #[(.object "java/lang/Object"), (.object "java/lang/String"), (.object "java/lang/Throwable"), (.array (.object "java/lang/StackTraceElement")), .int, (.object "java/util/List")]
  staticTypes := #[.long]
  resolved := Array.replicate 40 none
  statics := none }

def pool10 : Array CpInfo := pool [(1, .class_ 2), (0, u "java/lang/StringBuilder"), (0, .methodref 1 4), (0, .nameAndType 5 6), (0, u "<init>"), (0, u "()V"), (0, .methodref 1 8), (0, .nameAndType 9 10), (0, u "append"), (0, u "(Ljava/lang/String;)Ljava/lang/StringBuilder;"), (7, .methodref 1 19), (0, .nameAndType 20 21), (0, u "toString"), (0, u "()Ljava/lang/String;"), (1, .class_ 25), (1, u "java/lang/Exception"), (2, .class_ 30), (1, u "com/example/pricefence/pricefence/io/InputException"), (1, .methodref 33 34), (0, .class_ 35), (0, .nameAndType 36 37), (0, u "java/lang/String"), (0, u "length"), (0, u "()I"), (0, .string 39), (0, u "'"), (0, .methodref 33 41), (0, .nameAndType 42 43), (0, u "substring"), (0, u "(II)Ljava/lang/String;"), (0, .string 45), (0, u "...'"), (0, u "serialVersionUID"), (0, u "J"), (3, u "QUOTED_LENGTH"), (0, u "I"), (5, u "quote"), (0, u "(Ljava/lang/String;)Ljava/lang/String;")] 2

def k10c0 : Code := { maxStack := 4, maxLocals := 1, code := prog_25_method_3_code, exceptionTable := #[], attributes := #[] }
def k10m0 : Method := { name := "quote", desc := "(Ljava/lang/String;)Ljava/lang/String;", sig := { parameters := [(.object "java/lang/String")], returnType := some (.object "java/lang/String") }, accessFlags := 9, code := some k10c0 }
/-- com/example/pricefence/pricefence/io/InputException -/
def k10 : Class := { plain "com/example/pricefence/pricefence/io/InputException" (some 9) with
  accessFlags := 49
  interfaces := #[]
  cf := some (fileOf pool10 28 #[] #[{ accessFlags := 9, nameIndex := 58, descriptorIndex := 59, attributes := #[] }] 49 23 #[] #[{ accessFlags := 26, nameIndex := 46, descriptorIndex := 47, attributes := #[] }, { accessFlags := 26, nameIndex := 51, descriptorIndex := 52, attributes := #[] }])
  fields := #[{ name := "serialVersionUID", type := .long, accessFlags := 26, slot := 0, constantValue := 0 }, { name := "QUOTED_LENGTH", type := .int, accessFlags := 26, slot := 1, constantValue := 0 }]
  methods := #[k10m0]
  instanceTypes := #[(.object "java/lang/Object"), (.object "java/lang/String"), (.object "java/lang/Throwable"), (.array (.object "java/lang/StackTraceElement")), .int, (.object "java/util/List")]
  staticTypes := #[.long, .int]
  resolved := Array.replicate 62 none
  statics := none }

def pool11 : Array CpInfo := pool [(1, .class_ 2), (0, u "java/lang/Appendable"), (0, .class_ 4), (0, u "java/lang/Object")] 9

/-- java/lang/Appendable -/
def k11 : Class := { plain "java/lang/Appendable" (some 0) with
  accessFlags := 1537
  interfaces := #[]
  cf := some (fileOf pool11 1 #[] #[] 1537 3 #[] #[])
  fields := #[]
  methods := #[]
  instanceTypes := #[]
  staticTypes := #[]
  resolved := Array.replicate 14 none
  statics := none }

def pool12 : Array CpInfo := pool [(1, .class_ 2), (0, u "java/lang/String"), (0, .methodref 4 5), (0, .class_ 6), (0, .nameAndType 7 8), (0, u "java/lang/Object"), (0, u "<init>"), (0, u "()V"), (1, .class_ 12), (1, u "java/lang/AbstractStringBuilder"), (0, u "EMPTYVALUE"), (0, u "[B"), (0, .fieldref 10 16), (0, .nameAndType 17 14), (0, u "value"), (0, .fieldref 1 19), (0, .nameAndType 20 21), (0, u "COMPACT_STRINGS"), (0, u "Z"), (0, .fieldref 10 23), (0, .nameAndType 24 25), (0, u "coder"), (0, u "B"), (0, .methodref 27 28), (0, .class_ 29), (0, .nameAndType 30 31), (0, u "java/lang/StringUTF16"), (0, u "newBytesFor"), (0, u "(I)[B"), (0, .methodref 1 33), (0, .nameAndType 34 35), (0, u "length"), (0, u "()I"), (3, .integer 2147483647), (0, .methodref 1 41), (0, .nameAndType 24 42), (0, u "()B"), (2, u "append"), (0, u "(Ljava/lang/String;)Ljava/lang/AbstractStringBuilder;"), (1, .class_ 49), (0, u "java/lang/CharSequence"), (19, u "(Ljava/lang/String;)V"), (5, u "maybeLatin1"), (3, .fieldref 10 80), (0, .nameAndType 81 82), (0, u "count"), (0, u "I"), (0, .methodref 10 84), (0, .nameAndType 85 86), (0, u "isLatin1"), (0, u "()Z"), (1, .class_ 90), (1, u "java/lang/StringLatin1"), (9, .methodref 10 101), (0, .nameAndType 102 103), (0, u "ensureCapacityInternal"), (0, u "(I)V"), (0, .methodref 10 105), (0, .nameAndType 106 107), (0, u "newCapacity"), (0, u "(I)I"), (0, .methodref 109 110), (0, .class_ 111), (0, .nameAndType 112 113), (0, u "java/util/Arrays"), (0, u "copyOf"), (0, u "([BI)[B"), (0, .methodref 115 116), (0, .class_ 117), (0, .nameAndType 118 119), (0, u "jdk/internal/util/ArraysSupport"), (0, u "newLength"), (0, u "(III)I"), (5, .methodref 88 126), (0, .nameAndType 127 128), (0, u "inflate"), (0, u "([BI[BII)V"), (66, .methodref 10 196), (0, .nameAndType 127 8), (11, .methodref 10 209), (0, .nameAndType 210 211), (0, u "putStringAt"), (0, u "(ILjava/lang/String;)V"), (5, u "inflateIfNeededFor"), (2, .nameAndType 221 222), (0, u "getBytes"), (0, u "([BIB)V"), (174, .methodref 10 398), (0, .nameAndType 217 69), (0, .methodref 1 220), (3, u "()[B"), (40, .class_ 445), (0, u "java/lang/Appendable"), (106, u "getValue")] 56

def k12m0 : Method := { name := "<init>", desc := "()V", sig := { parameters := [], returnType := none }, accessFlags := 0, code := none }
def k12c1 : Code := { maxStack := 2, maxLocals := 2, code := jdk_68_method_2_code, exceptionTable := #[], attributes := #[] }
def k12m1 : Method := { name := "<init>", desc := "(I)V", sig := { parameters := [.int], returnType := none }, accessFlags := 0, code := some k12c1 }
def k12c2 : Code := { maxStack := 1, maxLocals := 1, code := jdk_68_method_6_code, exceptionTable := #[], attributes := #[] }
def k12m2 : Method := { name := "length", desc := "()I", sig := { parameters := [], returnType := some .int }, accessFlags := 1, code := some k12c2 }
def k12c3 : Code := { maxStack := 4, maxLocals := 3, code := jdk_68_method_9_code, exceptionTable := #[], attributes := #[] }
def k12m3 : Method := { name := "ensureCapacityInternal", desc := "(I)V", sig := { parameters := [.int], returnType := none }, accessFlags := 2, code := some k12c3 }
def k12c4 : Code := { maxStack := 5, maxLocals := 6, code := jdk_68_method_10_code, exceptionTable := #[], attributes := #[] }
def k12m4 : Method := { name := "newCapacity", desc := "(I)I", sig := { parameters := [.int], returnType := some .int }, accessFlags := 2, code := some k12c4 }
def k12c5 : Code := { maxStack := 5, maxLocals := 2, code := jdk_68_method_11_code, exceptionTable := #[], attributes := #[] }
def k12m5 : Method := { name := "inflate", desc := "()V", sig := { parameters := [], returnType := none }, accessFlags := 2, code := some k12c5 }
def k12c6 : Code := { maxStack := 3, maxLocals := 3, code := jdk_68_method_22_code, exceptionTable := #[], attributes := #[] }
def k12m6 : Method := { name := "append", desc := "(Ljava/lang/String;)Ljava/lang/AbstractStringBuilder;", sig := { parameters := [(.object "java/lang/String")], returnType := some (.object "java/lang/AbstractStringBuilder") }, accessFlags := 1, code := some k12c6 }
def k12c7 : Code := { maxStack := 1, maxLocals := 1, code := jdk_68_method_64_code, exceptionTable := #[], attributes := #[] }
def k12m7 : Method := { name := "getValue", desc := "()[B", sig := { parameters := [], returnType := some (.array .byte) }, accessFlags := 16, code := some k12c7 }
def k12c8 : Code := { maxStack := 1, maxLocals := 1, code := jdk_68_method_68_code, exceptionTable := #[], attributes := #[] }
def k12m8 : Method := { name := "isLatin1", desc := "()Z", sig := { parameters := [], returnType := some .boolean }, accessFlags := 16, code := some k12c8 }
def k12c9 : Code := { maxStack := 2, maxLocals := 2, code := jdk_68_method_71_code, exceptionTable := #[], attributes := #[] }
def k12m9 : Method := { name := "inflateIfNeededFor", desc := "(Ljava/lang/String;)V", sig := { parameters := [(.object "java/lang/String")], returnType := none }, accessFlags := 2, code := some k12c9 }
def k12c10 : Code := { maxStack := 4, maxLocals := 3, code := jdk_68_method_73_code, exceptionTable := #[], attributes := #[] }
def k12m10 : Method := { name := "putStringAt", desc := "(ILjava/lang/String;)V", sig := { parameters := [.int, (.object "java/lang/String")], returnType := none }, accessFlags := 2, code := some k12c10 }
/-- java/lang/AbstractStringBuilder -/
def k12 : Class := { plain "java/lang/AbstractStringBuilder" (some 0) with
  accessFlags := 1056
  interfaces := #[11, 4]
  cf := some (fileOf pool12 10 #[] #[{ accessFlags := 0, nameIndex := 7, descriptorIndex := 8, attributes := #[] }, { accessFlags := 0, nameIndex := 7, descriptorIndex := 103, attributes := #[] }, { accessFlags := 1, nameIndex := 34, descriptorIndex := 35, attributes := #[] }, { accessFlags := 2, nameIndex := 102, descriptorIndex := 103, attributes := #[] }, { accessFlags := 2, nameIndex := 106, descriptorIndex := 107, attributes := #[] }, { accessFlags := 2, nameIndex := 127, descriptorIndex := 8, attributes := #[] }, { accessFlags := 1, nameIndex := 45, descriptorIndex := 46, attributes := #[] }, { accessFlags := 16, nameIndex := 552, descriptorIndex := 403, attributes := #[] }, { accessFlags := 16, nameIndex := 85, descriptorIndex := 86, attributes := #[] }, { accessFlags := 2, nameIndex := 217, descriptorIndex := 69, attributes := #[] }, { accessFlags := 2, nameIndex := 210, descriptorIndex := 211, attributes := #[] }] 1056 4 #[444, 48] #[{ accessFlags := 0, nameIndex := 17, descriptorIndex := 14, attributes := #[] }, { accessFlags := 0, nameIndex := 24, descriptorIndex := 25, attributes := #[] }, { accessFlags := 0, nameIndex := 75, descriptorIndex := 21, attributes := #[] }, { accessFlags := 0, nameIndex := 81, descriptorIndex := 82, attributes := #[] }, { accessFlags := 26, nameIndex := 13, descriptorIndex := 14, attributes := #[] }])
  fields := #[{ name := "value", type := (.array .byte), accessFlags := 0, slot := 0, constantValue := 0 }, { name := "coder", type := .byte, accessFlags := 0, slot := 1, constantValue := 0 }, { name := "maybeLatin1", type := .boolean, accessFlags := 0, slot := 2, constantValue := 0 }, { name := "count", type := .int, accessFlags := 0, slot := 3, constantValue := 0 }, { name := "EMPTYVALUE", type := (.array .byte), accessFlags := 26, slot := 0, constantValue := 0 }]
  methods := #[k12m0, k12m1, k12m2, k12m3, k12m4, k12m5, k12m6, k12m7, k12m8, k12m9, k12m10]
  instanceTypes := #[(.array .byte), .byte, .boolean, .int]
  staticTypes := #[(.array .byte)]
  resolved := Array.replicate 609 none
  statics := none }

def pool13 : Array CpInfo := pool [(1, .methodref 2 3), (0, .class_ 4), (0, .nameAndType 5 6), (0, u "java/lang/AbstractStringBuilder"), (0, u "<init>"), (0, u "(I)V"), (11, .class_ 20), (1, u "java/lang/String"), (3, .class_ 26), (1, u "java/lang/StringBuilder"), (0, u "append"), (0, u "(Ljava/lang/String;)Ljava/lang/StringBuilder;"), (0, .methodref 2 30), (0, .nameAndType 27 31), (0, u "(Ljava/lang/String;)Ljava/lang/AbstractStringBuilder;"), (105, .methodref 18 138), (0, .nameAndType 5 139), (0, u "(Ljava/lang/StringBuilder;)V"), (5, u "()V"), (10, u "()I"), (186, .methodref 2 344), (0, .nameAndType 345 156), (0, u "length"), (3, .class_ 350), (0, u "java/lang/Appendable"), (0, .class_ 352), (0, u "java/io/Serializable"), (0, .class_ 354), (0, u "java/lang/Comparable"), (0, .class_ 356), (0, u "java/lang/CharSequence"), (0, u "serialVersionUID"), (0, u "J"), (40, u "toString"), (0, u "()Ljava/lang/String;")] 21

def k13c0 : Code := { maxStack := 2, maxLocals := 1, code := jdk_67_method_1_code, exceptionTable := #[], attributes := #[] }
def k13m0 : Method := { name := "<init>", desc := "()V", sig := { parameters := [], returnType := none }, accessFlags := 1, code := some k13c0 }
def k13c1 : Code := { maxStack := 2, maxLocals := 2, code := jdk_67_method_7_code, exceptionTable := #[], attributes := #[] }
def k13m1 : Method := { name := "append", desc := "(Ljava/lang/String;)Ljava/lang/StringBuilder;", sig := { parameters := [(.object "java/lang/String")], returnType := some (.object "java/lang/StringBuilder") }, accessFlags := 1, code := some k13c1 }
def k13c2 : Code := { maxStack := 3, maxLocals := 1, code := jdk_67_method_42_code, exceptionTable := #[], attributes := #[] }
def k13m2 : Method := { name := "toString", desc := "()Ljava/lang/String;", sig := { parameters := [], returnType := some (.object "java/lang/String") }, accessFlags := 1, code := some k13c2 }
def k13c3 : Code := { maxStack := 1, maxLocals := 1, code := jdk_67_method_93_code, exceptionTable := #[], attributes := #[] }
def k13m3 : Method := { name := "length", desc := "()I", sig := { parameters := [], returnType := some .int }, accessFlags := 4161, code := some k13c3 }
/-- java/lang/StringBuilder -/
def k13 : Class := { plain "java/lang/StringBuilder" (some 12) with
  accessFlags := 49
  interfaces := #[11, 2, 3, 4]
  cf := some (fileOf pool13 24 #[] #[{ accessFlags := 1, nameIndex := 5, descriptorIndex := 145, attributes := #[] }, { accessFlags := 1, nameIndex := 27, descriptorIndex := 28, attributes := #[] }, { accessFlags := 1, nameIndex := 399, descriptorIndex := 400, attributes := #[] }, { accessFlags := 4161, nameIndex := 345, descriptorIndex := 156, attributes := #[] }] 49 2 #[349, 351, 353, 355] #[{ accessFlags := 24, nameIndex := 357, descriptorIndex := 358, attributes := #[] }])
  fields := #[{ name := "serialVersionUID", type := .long, accessFlags := 24, slot := 0, constantValue := 0 }]
  methods := #[k13m0, k13m1, k13m2, k13m3]
  instanceTypes := #[(.array .byte), .byte, .boolean, .int]
  staticTypes := #[.long]
  resolved := Array.replicate 422 none
  statics := none }

def pool14 : Array CpInfo := pool [(2, .class_ 4), (1, u "java/lang/Object"), (0, u "<init>"), (0, u "()V"), (1, .class_ 10), (1, u "java/lang/System"), (0, u "allowSecurityManager"), (0, u "I"), (16, u "cons"), (0, u "Ljava/io/Console;"), (77, .class_ 110), (1, u "java/lang/System$CallersHolder"), (43, u "initialErrStream"), (0, u "Ljava/io/PrintStream;"), (19, u "security"), (0, u "Ljava/lang/SecurityManager;"), (31, .class_ 209), (0, u "java/lang/System$1"), (7, u "props"), (0, u "Ljava/util/Properties;"), (2, u "lineSeparator"), (0, u "Ljava/lang/String;"), (96, .class_ 321), (1, u "java/lang/System$LoggerFinder"), (5, .class_ 328), (0, u "java/lang/System$Logger"), (67, u "err"), (2, u "out"), (91, u "notSupportedJnuEncoding"), (15, u "in"), (17, u "initialIn"), (0, u "Ljava/io/InputStream;"), (35, u "bootLayer"), (0, u "Ljava/lang/ModuleLayer;"), (99, .class_ 664), (0, u "java/lang/System$2"), (9, u "NEVER"), (2, u "MAYBE"), (49, u "arraycopy"), (0, u "(Ljava/lang/Object;ILjava/lang/Object;II)V"), (72, .class_ 802), (0, u "java/lang/System$Logger$Level")] 31

def k14m0 : Method := { name := "<init>", desc := "()V", sig := { parameters := [], returnType := none }, accessFlags := 2, code := none }
def k14m1 : Method := { name := "arraycopy", desc := "(Ljava/lang/Object;ILjava/lang/Object;II)V", sig := { parameters := [(.object "java/lang/Object"), .int, (.object "java/lang/Object"), .int, .int], returnType := none }, accessFlags := 265, code := none }
/-- java/lang/System -/
def k14 : Class := { plain "java/lang/System" (some 0) with
  accessFlags := 49
  interfaces := #[]
  cf := some (fileOf pool14 8 #[.nestMembers #[319, 327, 801, 108, 663, 208]] #[{ accessFlags := 2, nameIndex := 5, descriptorIndex := 6, attributes := #[] }, { accessFlags := 265, nameIndex := 727, descriptorIndex := 728, attributes := #[] }] 49 2 #[] #[{ accessFlags := 25, nameIndex := 507, descriptorIndex := 526, attributes := #[] }, { accessFlags := 25, nameIndex := 399, descriptorIndex := 155, attributes := #[] }, { accessFlags := 25, nameIndex := 396, descriptorIndex := 155, attributes := #[] }, { accessFlags := 10, nameIndex := 525, descriptorIndex := 526, attributes := #[] }, { accessFlags := 26, nameIndex := 674, descriptorIndex := 12, attributes := #[] }, { accessFlags := 26, nameIndex := 677, descriptorIndex := 12, attributes := #[] }, { accessFlags := 10, nameIndex := 11, descriptorIndex := 12, attributes := #[] }, { accessFlags := 74, nameIndex := 175, descriptorIndex := 176, attributes := #[] }, { accessFlags := 10, nameIndex := 491, descriptorIndex := 222, attributes := #[] }, { accessFlags := 74, nameIndex := 29, descriptorIndex := 30, attributes := #[] }, { accessFlags := 74, nameIndex := 154, descriptorIndex := 155, attributes := #[] }, { accessFlags := 10, nameIndex := 217, descriptorIndex := 218, attributes := #[] }, { accessFlags := 10, nameIndex := 221, descriptorIndex := 222, attributes := #[] }, { accessFlags := 8, nameIndex := 562, descriptorIndex := 563, attributes := #[] }])
  fields := #[{ name := "in", type := (.object "java/io/InputStream"), accessFlags := 25, slot := 0, constantValue := 0 }, { name := "out", type := (.object "java/io/PrintStream"), accessFlags := 25, slot := 1, constantValue := 0 }, { name := "err", type := (.object "java/io/PrintStream"), accessFlags := 25, slot := 2, constantValue := 0 }, { name := "initialIn", type := (.object "java/io/InputStream"), accessFlags := 10, slot := 3, constantValue := 0 }, { name := "NEVER", type := .int, accessFlags := 26, slot := 4, constantValue := 0 }, { name := "MAYBE", type := .int, accessFlags := 26, slot := 5, constantValue := 0 }, { name := "allowSecurityManager", type := .int, accessFlags := 10, slot := 6, constantValue := 0 }, { name := "security", type := (.object "java/lang/SecurityManager"), accessFlags := 74, slot := 7, constantValue := 0 }, { name := "notSupportedJnuEncoding", type := (.object "java/lang/String"), accessFlags := 10, slot := 8, constantValue := 0 }, { name := "cons", type := (.object "java/io/Console"), accessFlags := 74, slot := 9, constantValue := 0 }, { name := "initialErrStream", type := (.object "java/io/PrintStream"), accessFlags := 74, slot := 10, constantValue := 0 }, { name := "props", type := (.object "java/util/Properties"), accessFlags := 10, slot := 11, constantValue := 0 }, { name := "lineSeparator", type := (.object "java/lang/String"), accessFlags := 10, slot := 12, constantValue := 0 }, { name := "bootLayer", type := (.object "java/lang/ModuleLayer"), accessFlags := 8, slot := 13, constantValue := 0 }]
  methods := #[k14m0, k14m1]
  instanceTypes := #[]
  staticTypes := #[(.object "java/io/InputStream"), (.object "java/io/PrintStream"), (.object "java/io/PrintStream"), (.object "java/io/InputStream"), .int, .int, .int, (.object "java/lang/SecurityManager"), (.object "java/lang/String"), (.object "java/io/Console"), (.object "java/io/PrintStream"), (.object "java/util/Properties"), (.object "java/lang/String"), (.object "java/lang/ModuleLayer")]
  resolved := Array.replicate 834 none
  statics := none }

def pool15 : Array CpInfo := pool [(2, .class_ 4), (1, u "java/lang/Object"), (0, u "<init>"), (0, u "()V"), (7, .class_ 16), (1, u "java/util/Arrays"), (57, .class_ 76), (1, u "java/util/Arrays$NaturalOrder"), (36, .class_ 115), (1, u "java/util/Arrays$LegacyMergeSort"), (1, u "Z"), (21, u "copyOfRange"), (10, .methodref 151 152), (0, .class_ 153), (0, .nameAndType 154 155), (0, u "java/lang/System"), (0, u "arraycopy"), (0, u "(Ljava/lang/Object;ILjava/lang/Object;II)V"), (146, u "copyOf"), (1, .methodref 305 306), (0, .class_ 307), (0, .nameAndType 308 309), (0, u "java/lang/Math"), (0, u "min"), (0, u "(II)I"), (29, .methodref 14 340), (0, .nameAndType 341 342), (0, u "copyOfRangeByte"), (0, u "([BII)[B"), (0, .methodref 14 344), (0, .nameAndType 345 346), (0, u "checkLength"), (0, u "(II)V"), (28, .class_ 376), (0, u "java/util/Arrays$ArrayList"), (68, u "$assertionsDisabled"), (269, u "MIN_ARRAY_SORT_GRAN"), (0, u "I"), (2, u "INSERTIONSORT_THRESHOLD"), (149, u "([BI)[B"), (105, .class_ 976), (0, u "java/util/Arrays$ArrayItr")] 52

def k15m0 : Method := { name := "<init>", desc := "()V", sig := { parameters := [], returnType := none }, accessFlags := 2, code := none }
def k15c1 : Code := { maxStack := 6, maxLocals := 3, code := jdk_65_method_121_code, exceptionTable := #[], attributes := #[] }
def k15m1 : Method := { name := "copyOf", desc := "([BI)[B", sig := { parameters := [(.array .byte), .int], returnType := some (.array .byte) }, accessFlags := 9, code := some k15c1 }
def k15c2 : Code := { maxStack := 4, maxLocals := 2, code := jdk_65_method_131_code, exceptionTable := #[], attributes := #[] }
def k15m2 : Method := { name := "checkLength", desc := "(II)V", sig := { parameters := [.int, .int], returnType := none }, accessFlags := 10, code := some k15c2 }
def k15c3 : Code := { maxStack := 3, maxLocals := 3, code := jdk_65_method_132_code, exceptionTable := #[], attributes := #[] }
def k15m3 : Method := { name := "copyOfRange", desc := "([BII)[B", sig := { parameters := [(.array .byte), .int, .int], returnType := some (.array .byte) }, accessFlags := 9, code := some k15c3 }
def k15c4 : Code := { maxStack := 6, maxLocals := 5, code := jdk_65_method_133_code, exceptionTable := #[], attributes := #[] }
def k15m4 : Method := { name := "copyOfRangeByte", desc := "([BII)[B", sig := { parameters := [(.array .byte), .int, .int], returnType := some (.array .byte) }, accessFlags := 10, code := some k15c4 }
/-- java/util/Arrays -/
def k15 : Class := { plain "java/util/Arrays" (some 0) with
  accessFlags := 49
  interfaces := #[]
  cf := some (fileOf pool15 14 #[.nestMembers #[975, 375, 113, 74]] #[{ accessFlags := 2, nameIndex := 5, descriptorIndex := 6, attributes := #[] }, { accessFlags := 9, nameIndex := 302, descriptorIndex := 869, attributes := #[] }, { accessFlags := 10, nameIndex := 345, descriptorIndex := 346, attributes := #[] }, { accessFlags := 9, nameIndex := 139, descriptorIndex := 342, attributes := #[] }, { accessFlags := 10, nameIndex := 341, descriptorIndex := 342, attributes := #[] }] 49 2 #[] #[{ accessFlags := 26, nameIndex := 715, descriptorIndex := 716, attributes := #[] }, { accessFlags := 26, nameIndex := 719, descriptorIndex := 716, attributes := #[] }, { accessFlags := 4120, nameIndex := 445, descriptorIndex := 117, attributes := #[] }])
  fields := #[{ name := "MIN_ARRAY_SORT_GRAN", type := .int, accessFlags := 26, slot := 0, constantValue := 0 }, { name := "INSERTIONSORT_THRESHOLD", type := .int, accessFlags := 26, slot := 1, constantValue := 0 }, { name := "$assertionsDisabled", type := .boolean, accessFlags := 4120, slot := 2, constantValue := 0 }]
  methods := #[k15m0, k15m1, k15m2, k15m3, k15m4]
  instanceTypes := #[]
  staticTypes := #[.int, .int, .boolean]
  resolved := Array.replicate 1029 none
  statics := none }

def pool16 : Array CpInfo := pool [(1, .class_ 2), (0, u "java/lang/Math"), (1, .class_ 6), (1, u "java/lang/Object"), (0, u "<init>"), (0, u "()V"), (89, .class_ 100), (1, u "java/lang/Math$RandomNumberGeneratorHolder"), (71, u "negativeZeroFloatBits"), (0, u "J"), (2, u "negativeZeroDoubleBits"), (21, u "max"), (2, u "min"), (43, u "$assertionsDisabled"), (0, u "Z"), (88, u "(II)I"), (2, u "twoToTheDoubleScaleDown"), (0, u "D"), (4, u "twoToTheDoubleScaleUp"), (9, u "E"), (3, u "PI"), (2, u "TAU"), (2, u "DEGREES_TO_RADIANS"), (0, u "RADIANS_TO_DEGREES")] 94

def k16m0 : Method := { name := "<init>", desc := "()V", sig := { parameters := [], returnType := none }, accessFlags := 2, code := none }
def k16c1 : Code := { maxStack := 2, maxLocals := 2, code := jdk_29_method_65_code, exceptionTable := #[], attributes := #[] }
def k16m1 : Method := { name := "max", desc := "(II)I", sig := { parameters := [.int, .int], returnType := some .int }, accessFlags := 9, code := some k16c1 }
def k16c2 : Code := { maxStack := 2, maxLocals := 2, code := jdk_29_method_69_code, exceptionTable := #[], attributes := #[] }
def k16m2 : Method := { name := "min", desc := "(II)I", sig := { parameters := [.int, .int], returnType := some .int }, accessFlags := 9, code := some k16c2 }
/-- java/lang/Math -/
def k16 : Class := { plain "java/lang/Math" (some 0) with
  accessFlags := 49
  interfaces := #[]
  cf := some (fileOf pool16 1 #[.nestMembers #[98]] #[{ accessFlags := 2, nameIndex := 7, descriptorIndex := 8, attributes := #[] }, { accessFlags := 9, nameIndex := 198, descriptorIndex := 335, attributes := #[] }, { accessFlags := 9, nameIndex := 201, descriptorIndex := 335, attributes := #[] }] 49 4 #[] #[{ accessFlags := 25, nameIndex := 354, descriptorIndex := 339, attributes := #[] }, { accessFlags := 25, nameIndex := 358, descriptorIndex := 339, attributes := #[] }, { accessFlags := 25, nameIndex := 361, descriptorIndex := 339, attributes := #[] }, { accessFlags := 26, nameIndex := 364, descriptorIndex := 339, attributes := #[] }, { accessFlags := 26, nameIndex := 365, descriptorIndex := 339, attributes := #[] }, { accessFlags := 26, nameIndex := 172, descriptorIndex := 173, attributes := #[] }, { accessFlags := 26, nameIndex := 176, descriptorIndex := 173, attributes := #[] }, { accessFlags := 8, nameIndex := 344, descriptorIndex := 339, attributes := #[] }, { accessFlags := 8, nameIndex := 338, descriptorIndex := 339, attributes := #[] }, { accessFlags := 4120, nameIndex := 245, descriptorIndex := 246, attributes := #[] }])
  fields := #[{ name := "E", type := .double, accessFlags := 25, slot := 0, constantValue := 0 }, { name := "PI", type := .double, accessFlags := 25, slot := 1, constantValue := 0 }, { name := "TAU", type := .double, accessFlags := 25, slot := 2, constantValue := 0 }, { name := "DEGREES_TO_RADIANS", type := .double, accessFlags := 26, slot := 3, constantValue := 0 }, { name := "RADIANS_TO_DEGREES", type := .double, accessFlags := 26, slot := 4, constantValue := 0 }, { name := "negativeZeroFloatBits", type := .long, accessFlags := 26, slot := 5, constantValue := 0 }, { name := "negativeZeroDoubleBits", type := .long, accessFlags := 26, slot := 6, constantValue := 0 }, { name := "twoToTheDoubleScaleUp", type := .double, accessFlags := 8, slot := 7, constantValue := 0 }, { name := "twoToTheDoubleScaleDown", type := .double, accessFlags := 8, slot := 8, constantValue := 0 }, { name := "$assertionsDisabled", type := .boolean, accessFlags := 4120, slot := 9, constantValue := 0 }]
  methods := #[k16m0, k16m1, k16m2]
  instanceTypes := #[]
  staticTypes := #[.double, .double, .double, .double, .double, .long, .long, .double, .double, .boolean]
  resolved := Array.replicate 460 none
  statics := none }

def pool17 : Array CpInfo := pool [(1, .class_ 2), (0, u "java/lang/String"), (1, .class_ 6), (1, u "java/lang/Object"), (0, u "<init>"), (0, u "()V"), (0, .methodref 1 10), (0, .nameAndType 11 12), (0, u "checkIndex"), (0, u "(II)V"), (1, .class_ 16), (1, u "java/lang/StringLatin1"), (0, u "inflate"), (2, .class_ 22), (1, u "java/lang/StringUTF16"), (3, .nameAndType 17 27), (0, u "([BI[BII)V"), (25, u "([BI)C"), (58, .methodref 1 113), (0, .nameAndType 7 114), (0, u "([BB)V"), (6, u "$assertionsDisabled"), (0, u "Z"), (8, .class_ 133), (1, u "java/util/Arrays"), (62, u "newString"), (0, u "([BII)Ljava/lang/String;"), (23, .class_ 223), (1, u "java/lang/StringLatin1$LinesSpliterator"), (8, .methodref 131 233), (0, .nameAndType 234 235), (0, u "copyOfRange"), (0, u "([BII)[B"), (4, .methodref 20 26), (11, u "charAt"), (137, .class_ 391), (0, u "java/lang/StringLatin1$CharsSpliterator")] 3

def k17m0 : Method := { name := "<init>", desc := "()V", sig := { parameters := [], returnType := none }, accessFlags := 0, code := none }
def k17c1 : Code := { maxStack := 2, maxLocals := 2, code := jdk_43_method_2_code, exceptionTable := #[], attributes := #[] }
def k17m1 : Method := { name := "charAt", desc := "([BI)C", sig := { parameters := [(.array .byte), .int], returnType := some .char }, accessFlags := 9, code := some k17c1 }
def k17c2 : Code := { maxStack := 6, maxLocals := 3, code := jdk_43_method_47_code, exceptionTable := #[], attributes := #[] }
def k17m2 : Method := { name := "newString", desc := "([BII)Ljava/lang/String;", sig := { parameters := [(.array .byte), .int, .int], returnType := some (.object "java/lang/String") }, accessFlags := 9, code := some k17c2 }
def k17c3 : Code := { maxStack := 5, maxLocals := 5, code := jdk_43_method_50_code, exceptionTable := #[], attributes := #[] }
def k17m3 : Method := { name := "inflate", desc := "([BI[BII)V", sig := { parameters := [(.array .byte), .int, (.array .byte), .int, .int], returnType := none }, accessFlags := 9, code := some k17c3 }
/-- java/lang/StringLatin1 -/
def k17 : Class := { plain "java/lang/StringLatin1" (some 0) with
  accessFlags := 48
  interfaces := #[]
  cf := some (fileOf pool17 14 #[.nestMembers #[390, 221]] #[{ accessFlags := 0, nameIndex := 7, descriptorIndex := 8, attributes := #[] }, { accessFlags := 9, nameIndex := 252, descriptorIndex := 53, attributes := #[] }, { accessFlags := 9, nameIndex := 196, descriptorIndex := 197, attributes := #[] }, { accessFlags := 9, nameIndex := 17, descriptorIndex := 27, attributes := #[] }] 48 4 #[] #[{ accessFlags := 4120, nameIndex := 121, descriptorIndex := 122, attributes := #[] }])
  fields := #[{ name := "$assertionsDisabled", type := .boolean, accessFlags := 4120, slot := 0, constantValue := 0 }]
  methods := #[k17m0, k17m1, k17m2, k17m3]
  instanceTypes := #[]
  staticTypes := #[.boolean]
  resolved := Array.replicate 395 none
  statics := none }

def pool18 : Array CpInfo := pool [(2, .class_ 4), (1, u "java/lang/Object"), (0, u "<init>"), (0, u "()V"), (17, .class_ 26), (1, u "jdk/internal/util/Preconditions"), (6, u "checkIndex"), (13, u "checkFromToIndex"), (1, u "checkFromIndexSize"), (5, .class_ 56), (0, u "jdk/internal/util/Preconditions$4"), (57, .class_ 115), (0, u "jdk/internal/util/Preconditions$1"), (7, u "SIOOBE_FORMATTER"), (0, u "Ljava/util/function/BiFunction;"), (0, .class_ 126), (0, u "jdk/internal/util/Preconditions$2"), (3, u "AIOOBE_FORMATTER"), (0, .class_ 132), (0, u "jdk/internal/util/Preconditions$3"), (3, u "IOOBE_FORMATTER"), (41, u "(IILjava/util/function/BiFunction;)I"), (4, u "(IIILjava/util/function/BiFunction;)I")] 10

def k18m0 : Method := { name := "<init>", desc := "()V", sig := { parameters := [], returnType := none }, accessFlags := 1, code := none }
def k18c1 : Code := { maxStack := 3, maxLocals := 3, code := jdk_41_method_11_code, exceptionTable := #[], attributes := #[] }
def k18m1 : Method := { name := "checkIndex", desc := "(IILjava/util/function/BiFunction;)I", sig := { parameters := [.int, .int, (.object "java/util/function/BiFunction")], returnType := some .int }, accessFlags := 9, code := some k18c1 }
def k18c2 : Code := { maxStack := 4, maxLocals := 4, code := jdk_41_method_12_code, exceptionTable := #[], attributes := #[] }
def k18m2 : Method := { name := "checkFromToIndex", desc := "(IIILjava/util/function/BiFunction;)I", sig := { parameters := [.int, .int, .int, (.object "java/util/function/BiFunction")], returnType := some .int }, accessFlags := 9, code := some k18c2 }
def k18c3 : Code := { maxStack := 4, maxLocals := 4, code := jdk_41_method_13_code, exceptionTable := #[], attributes := #[] }
def k18m3 : Method := { name := "checkFromIndexSize", desc := "(IIILjava/util/function/BiFunction;)I", sig := { parameters := [.int, .int, .int, (.object "java/util/function/BiFunction")], returnType := some .int }, accessFlags := 9, code := some k18c3 }
/-- jdk/internal/util/Preconditions -/
def k18 : Class := { plain "jdk/internal/util/Preconditions" (some 0) with
  accessFlags := 33
  interfaces := #[]
  cf := some (fileOf pool18 24 #[.nestMembers #[55, 131, 125, 114]] #[{ accessFlags := 1, nameIndex := 5, descriptorIndex := 6, attributes := #[] }, { accessFlags := 9, nameIndex := 33, descriptorIndex := 178, attributes := #[] }, { accessFlags := 9, nameIndex := 47, descriptorIndex := 183, attributes := #[] }, { accessFlags := 9, nameIndex := 49, descriptorIndex := 183, attributes := #[] }] 33 2 #[] #[{ accessFlags := 25, nameIndex := 123, descriptorIndex := 124, attributes := #[] }, { accessFlags := 25, nameIndex := 130, descriptorIndex := 124, attributes := #[] }, { accessFlags := 25, nameIndex := 136, descriptorIndex := 124, attributes := #[] }])
  fields := #[{ name := "SIOOBE_FORMATTER", type := (.object "java/util/function/BiFunction"), accessFlags := 25, slot := 0, constantValue := 0 }, { name := "AIOOBE_FORMATTER", type := (.object "java/util/function/BiFunction"), accessFlags := 25, slot := 1, constantValue := 0 }, { name := "IOOBE_FORMATTER", type := (.object "java/util/function/BiFunction"), accessFlags := 25, slot := 2, constantValue := 0 }]
  methods := #[k18m0, k18m1, k18m2, k18m3]
  instanceTypes := #[]
  staticTypes := #[(.object "java/util/function/BiFunction"), (.object "java/util/function/BiFunction"), (.object "java/util/function/BiFunction")]
  resolved := Array.replicate 194 none
  statics := some 1 }

def pool19 : Array CpInfo := pool [(3, .class_ 4), (0, u "java/lang/String"), (1, .class_ 8), (1, u "java/lang/Object"), (0, u "<init>"), (0, u "()V"), (0, .methodref 12 13), (0, .class_ 14), (0, .nameAndType 15 16), (0, u "java/lang/StringUTF16"), (0, u "newBytesLength"), (0, u "(I)I"), (3, .integer 1073741823), (23, .fieldref 12 45), (0, .nameAndType 46 47), (0, u "$assertionsDisabled"), (0, u "Z"), (0, .methodref 12 49), (0, .nameAndType 50 51), (0, u "length"), (0, u "([B)I"), (7, .fieldref 12 60), (0, .nameAndType 61 62), (0, u "HI_BYTE_SHIFT"), (0, u "I"), (0, .fieldref 12 64), (0, .nameAndType 65 62), (0, u "LO_BYTE_SHIFT"), (1, .methodref 12 68), (0, .nameAndType 69 70), (0, u "checkIndex"), (0, u "(I[B)V"), (0, .methodref 12 72), (0, .nameAndType 73 74), (0, u "getChar"), (0, u "([BI)C"), (24, u "(II[B)V"), (7, .methodref 12 108), (0, .nameAndType 109 110), (0, u "newBytesFor"), (0, u "(I)[B"), (0, .methodref 12 112), (0, .nameAndType 113 114), (0, u "putChar"), (0, u "([BII)V"), (0, .methodref 12 116), (0, .nameAndType 117 118), (0, u "compress"), (0, u "([CI[BII)I"), (0, .methodref 12 120), (0, .nameAndType 121 122), (0, u "toBytes"), (0, u "([CII)[B"), (0, .methodref 12 124), (0, .nameAndType 117 125), (0, u "([BI[BII)I"), (0, .methodref 127 128), (0, .class_ 129), (0, .nameAndType 130 131), (0, u "java/util/Arrays"), (0, u "copyOfRange"), (0, u "([BII)[B"), (8, u "inflate"), (0, u "([BI[BII)V"), (31, .methodref 12 174), (0, .nameAndType 175 99), (0, u "checkBoundsOffCount"), (75, .fieldref 3 252), (0, .nameAndType 253 47), (0, u "COMPACT_STRINGS"), (3, .methodref 12 258), (0, .nameAndType 117 131), (0, .methodref 12 260), (0, .nameAndType 261 262), (0, u "coderFromArrayLen"), (0, u "([BI)B"), (0, .methodref 3 264), (0, .nameAndType 9 265), (0, u "([BB)V"), (15, u "(III)I"), (45, u "newString"), (0, u "([BII)Ljava/lang/String;"), (40, .class_ 371), (1, u "java/lang/StringUTF16$LinesSpliterator"), (20, u "charAt"), (21, .methodref 3 415), (0, .nameAndType 69 416), (0, u "(II)V"), (2, .methodref 3 420), (0, .nameAndType 175 281), (9, u "MAX_LENGTH"), (196, .class_ 628), (0, u "java/lang/StringUTF16$CodePointsSpliterator"), (0, .class_ 630), (0, u "java/lang/StringUTF16$CharsSpliterator")] 4

def k19m0 : Method := { name := "<init>", desc := "()V", sig := { parameters := [], returnType := none }, accessFlags := 0, code := none }
def k19c1 : Code := { maxStack := 1, maxLocals := 1, code := jdk_52_method_2_code, exceptionTable := #[], attributes := #[] }
def k19m1 : Method := { name := "newBytesFor", desc := "(I)[B", sig := { parameters := [.int], returnType := some (.array .byte) }, accessFlags := 9, code := some k19c1 }
def k19c2 : Code := { maxStack := 4, maxLocals := 1, code := jdk_52_method_3_code, exceptionTable := #[], attributes := #[] }
def k19m2 : Method := { name := "newBytesLength", desc := "(I)I", sig := { parameters := [.int], returnType := some .int }, accessFlags := 9, code := some k19c2 }
def k19c3 : Code := { maxStack := 4, maxLocals := 3, code := jdk_52_method_4_code, exceptionTable := #[], attributes := #[] }
def k19m3 : Method := { name := "putChar", desc := "([BII)V", sig := { parameters := [(.array .byte), .int, .int], returnType := none }, accessFlags := 8, code := some k19c3 }
def k19c4 : Code := { maxStack := 3, maxLocals := 2, code := jdk_52_method_5_code, exceptionTable := #[], attributes := #[] }
def k19m4 : Method := { name := "getChar", desc := "([BI)C", sig := { parameters := [(.array .byte), .int], returnType := some .char }, accessFlags := 8, code := some k19c4 }
def k19c5 : Code := { maxStack := 2, maxLocals := 1, code := jdk_52_method_6_code, exceptionTable := #[], attributes := #[] }
def k19m5 : Method := { name := "length", desc := "([B)I", sig := { parameters := [(.array .byte)], returnType := some .int }, accessFlags := 9, code := some k19c5 }
def k19c6 : Code := { maxStack := 4, maxLocals := 5, code := jdk_52_method_14_code, exceptionTable := #[], attributes := #[] }
def k19m6 : Method := { name := "toBytes", desc := "([CII)[B", sig := { parameters := [(.array .char), .int, .int], returnType := some (.array .byte) }, accessFlags := 9, code := some k19c6 }
def k19c7 : Code := { maxStack := 2, maxLocals := 2, code := jdk_52_method_15_code, exceptionTable := #[], attributes := #[] }
def k19m7 : Method := { name := "coderFromArrayLen", desc := "([BI)B", sig := { parameters := [(.array .byte), .int], returnType := some .byte }, accessFlags := 8, code := some k19c7 }
def k19c8 : Code := { maxStack := 5, maxLocals := 6, code := jdk_52_method_16_code, exceptionTable := #[], attributes := #[] }
def k19m8 : Method := { name := "compress", desc := "([CII)[B", sig := { parameters := [(.array .char), .int, .int], returnType := some (.array .byte) }, accessFlags := 9, code := some k19c8 }
def k19c9 : Code := { maxStack := 5, maxLocals := 6, code := jdk_52_method_17_code, exceptionTable := #[], attributes := #[] }
def k19m9 : Method := { name := "compress", desc := "([BII)[B", sig := { parameters := [(.array .byte), .int, .int], returnType := some (.array .byte) }, accessFlags := 9, code := some k19c9 }
def k19c10 : Code := { maxStack := 3, maxLocals := 7, code := jdk_52_method_21_code, exceptionTable := #[], attributes := #[] }
def k19m10 : Method := { name := "compress", desc := "([CI[BII)I", sig := { parameters := [(.array .char), .int, (.array .byte), .int, .int], returnType := some .int }, accessFlags := 9, code := some k19c10 }
def k19c11 : Code := { maxStack := 3, maxLocals := 7, code := jdk_52_method_22_code, exceptionTable := #[], attributes := #[] }
def k19m11 : Method := { name := "compress", desc := "([BI[BII)I", sig := { parameters := [(.array .byte), .int, (.array .byte), .int, .int], returnType := some .int }, accessFlags := 9, code := some k19c11 }
def k19c12 : Code := { maxStack := 6, maxLocals := 5, code := jdk_52_method_69_code, exceptionTable := #[], attributes := #[] }
def k19m12 : Method := { name := "newString", desc := "([BII)Ljava/lang/String;", sig := { parameters := [(.array .byte), .int, .int], returnType := some (.object "java/lang/String") }, accessFlags := 9, code := some k19c12 }
def k19c13 : Code := { maxStack := 2, maxLocals := 2, code := jdk_52_method_83_code, exceptionTable := #[], attributes := #[] }
def k19m13 : Method := { name := "charAt", desc := "([BI)C", sig := { parameters := [(.array .byte), .int], returnType := some .char }, accessFlags := 9, code := some k19c13 }
def k19c14 : Code := { maxStack := 4, maxLocals := 6, code := jdk_52_method_86_code, exceptionTable := #[], attributes := #[] }
def k19m14 : Method := { name := "inflate", desc := "([BI[BII)V", sig := { parameters := [(.array .byte), .int, (.array .byte), .int, .int], returnType := none }, accessFlags := 9, code := some k19c14 }
def k19c15 : Code := { maxStack := 2, maxLocals := 2, code := jdk_52_method_91_code, exceptionTable := #[], attributes := #[] }
def k19m15 : Method := { name := "checkIndex", desc := "(I[B)V", sig := { parameters := [.int, (.array .byte)], returnType := none }, accessFlags := 9, code := some k19c15 }
def k19c16 : Code := { maxStack := 3, maxLocals := 3, code := jdk_52_method_94_code, exceptionTable := #[], attributes := #[] }
def k19m16 : Method := { name := "checkBoundsOffCount", desc := "(II[B)V", sig := { parameters := [.int, .int, (.array .byte)], returnType := none }, accessFlags := 9, code := some k19c16 }
/-- java/lang/StringUTF16 -/
def k19 : Class := { plain "java/lang/StringUTF16" (some 0) with
  accessFlags := 48
  interfaces := #[]
  cf := some (fileOf pool19 12 #[.nestMembers #[627, 629, 369]] #[{ accessFlags := 0, nameIndex := 9, descriptorIndex := 10, attributes := #[] }, { accessFlags := 9, nameIndex := 109, descriptorIndex := 110, attributes := #[] }, { accessFlags := 9, nameIndex := 15, descriptorIndex := 16, attributes := #[] }, { accessFlags := 8, nameIndex := 113, descriptorIndex := 114, attributes := #[] }, { accessFlags := 8, nameIndex := 73, descriptorIndex := 74, attributes := #[] }, { accessFlags := 9, nameIndex := 50, descriptorIndex := 51, attributes := #[] }, { accessFlags := 9, nameIndex := 121, descriptorIndex := 122, attributes := #[] }, { accessFlags := 8, nameIndex := 261, descriptorIndex := 262, attributes := #[] }, { accessFlags := 9, nameIndex := 117, descriptorIndex := 122, attributes := #[] }, { accessFlags := 9, nameIndex := 117, descriptorIndex := 131, attributes := #[] }, { accessFlags := 9, nameIndex := 117, descriptorIndex := 118, attributes := #[] }, { accessFlags := 9, nameIndex := 117, descriptorIndex := 125, attributes := #[] }, { accessFlags := 9, nameIndex := 327, descriptorIndex := 328, attributes := #[] }, { accessFlags := 9, nameIndex := 392, descriptorIndex := 74, attributes := #[] }, { accessFlags := 9, nameIndex := 140, descriptorIndex := 141, attributes := #[] }, { accessFlags := 9, nameIndex := 69, descriptorIndex := 70, attributes := #[] }, { accessFlags := 9, nameIndex := 175, descriptorIndex := 99, attributes := #[] }] 48 6 #[] #[{ accessFlags := 26, nameIndex := 61, descriptorIndex := 62, attributes := #[] }, { accessFlags := 26, nameIndex := 65, descriptorIndex := 62, attributes := #[] }, { accessFlags := 24, nameIndex := 430, descriptorIndex := 62, attributes := #[] }, { accessFlags := 4120, nameIndex := 46, descriptorIndex := 47, attributes := #[] }])
  fields := #[{ name := "HI_BYTE_SHIFT", type := .int, accessFlags := 26, slot := 0, constantValue := 0 }, { name := "LO_BYTE_SHIFT", type := .int, accessFlags := 26, slot := 1, constantValue := 0 }, { name := "MAX_LENGTH", type := .int, accessFlags := 24, slot := 2, constantValue := 0 }, { name := "$assertionsDisabled", type := .boolean, accessFlags := 4120, slot := 3, constantValue := 0 }]
  methods := #[k19m0, k19m1, k19m2, k19m3, k19m4, k19m5, k19m6, k19m7, k19m8, k19m9, k19m10, k19m11, k19m12, k19m13, k19m14, k19m15, k19m16]
  instanceTypes := #[]
  staticTypes := #[.int, .int, .int, .boolean]
  resolved := Array.replicate 635 none
  statics := some 2 }

def pool20 : Array CpInfo := pool [(9, u "<init>"), (6, .class_ 18), (1, u "java/lang/Object"), (0, u "()V"), (1, .class_ 23), (1, u "jdk/internal/util/ArraysSupport"), (0, u "LOG2_ARRAY_LONG_INDEX_SCALE"), (0, u "I"), (2, u "U"), (0, u "Ljdk/internal/misc/Unsafe;"), (8, u "BIG_ENDIAN"), (0, u "Z"), (8, u "LOG2_BYTE_BIT_SIZE"), (4, u "LOG2_ARRAY_INT_INDEX_SCALE"), (54, u "JLA"), (0, u "Ljdk/internal/access/JavaLangAccess;"), (11, u "LOG2_ARRAY_BOOLEAN_INDEX_SCALE"), (9, u "LOG2_ARRAY_BYTE_INDEX_SCALE"), (5, u "LOG2_ARRAY_CHAR_INDEX_SCALE"), (5, u "LOG2_ARRAY_SHORT_INDEX_SCALE"), (18, u "LOG2_ARRAY_FLOAT_INDEX_SCALE"), (24, u "LOG2_ARRAY_DOUBLE_INDEX_SCALE"), (6, .methodref 195 196), (0, .class_ 197), (0, .nameAndType 198 199), (0, u "java/lang/Math"), (0, u "max"), (0, u "(II)I"), (0, .integer 2147483639), (76, u "T_BOOLEAN"), (2, u "T_CHAR"), (1, u "T_FLOAT"), (1, u "T_DOUBLE"), (1, u "T_BYTE"), (1, u "T_SHORT"), (1, u "T_INT"), (1, u "T_LONG"), (1, u "SOFT_MAX_ARRAY_LENGTH"), (56, u "newLength"), (0, u "(III)I")] 25

def k20m0 : Method := { name := "<init>", desc := "()V", sig := { parameters := [], returnType := none }, accessFlags := 2, code := none }
def k20c1 : Code := { maxStack := 3, maxLocals := 4, code := jdk_48_method_27_code, exceptionTable := #[], attributes := #[] }
def k20m1 : Method := { name := "newLength", desc := "(III)I", sig := { parameters := [.int, .int, .int], returnType := some .int }, accessFlags := 9, code := some k20c1 }
/-- jdk/internal/util/ArraysSupport -/
def k20 : Class := { plain "jdk/internal/util/ArraysSupport" (some 0) with
  accessFlags := 33
  interfaces := #[]
  cf := some (fileOf pool20 21 #[] #[{ accessFlags := 2, nameIndex := 9, descriptorIndex := 19, attributes := #[] }, { accessFlags := 9, nameIndex := 351, descriptorIndex := 352, attributes := #[] }] 33 16 #[] #[{ accessFlags := 24, nameIndex := 28, descriptorIndex := 29, attributes := #[] }, { accessFlags := 26, nameIndex := 38, descriptorIndex := 39, attributes := #[] }, { accessFlags := 25, nameIndex := 121, descriptorIndex := 25, attributes := #[] }, { accessFlags := 25, nameIndex := 131, descriptorIndex := 25, attributes := #[] }, { accessFlags := 25, nameIndex := 137, descriptorIndex := 25, attributes := #[] }, { accessFlags := 25, nameIndex := 143, descriptorIndex := 25, attributes := #[] }, { accessFlags := 25, nameIndex := 53, descriptorIndex := 25, attributes := #[] }, { accessFlags := 25, nameIndex := 24, descriptorIndex := 25, attributes := #[] }, { accessFlags := 25, nameIndex := 162, descriptorIndex := 25, attributes := #[] }, { accessFlags := 25, nameIndex := 187, descriptorIndex := 25, attributes := #[] }, { accessFlags := 26, nameIndex := 48, descriptorIndex := 25, attributes := #[] }, { accessFlags := 25, nameIndex := 277, descriptorIndex := 25, attributes := #[] }, { accessFlags := 25, nameIndex := 280, descriptorIndex := 25, attributes := #[] }, { accessFlags := 25, nameIndex := 282, descriptorIndex := 25, attributes := #[] }, { accessFlags := 25, nameIndex := 284, descriptorIndex := 25, attributes := #[] }, { accessFlags := 25, nameIndex := 286, descriptorIndex := 25, attributes := #[] }, { accessFlags := 25, nameIndex := 288, descriptorIndex := 25, attributes := #[] }, { accessFlags := 25, nameIndex := 290, descriptorIndex := 25, attributes := #[] }, { accessFlags := 25, nameIndex := 292, descriptorIndex := 25, attributes := #[] }, { accessFlags := 26, nameIndex := 108, descriptorIndex := 109, attributes := #[] }, { accessFlags := 25, nameIndex := 294, descriptorIndex := 25, attributes := #[] }])
  fields := #[{ name := "U", type := (.object "jdk/internal/misc/Unsafe"), accessFlags := 24, slot := 0, constantValue := 0 }, { name := "BIG_ENDIAN", type := .boolean, accessFlags := 26, slot := 1, constantValue := 0 }, { name := "LOG2_ARRAY_BOOLEAN_INDEX_SCALE", type := .int, accessFlags := 25, slot := 2, constantValue := 0 }, { name := "LOG2_ARRAY_BYTE_INDEX_SCALE", type := .int, accessFlags := 25, slot := 3, constantValue := 0 }, { name := "LOG2_ARRAY_CHAR_INDEX_SCALE", type := .int, accessFlags := 25, slot := 4, constantValue := 0 }, { name := "LOG2_ARRAY_SHORT_INDEX_SCALE", type := .int, accessFlags := 25, slot := 5, constantValue := 0 }, { name := "LOG2_ARRAY_INT_INDEX_SCALE", type := .int, accessFlags := 25, slot := 6, constantValue := 0 }, { name := "LOG2_ARRAY_LONG_INDEX_SCALE", type := .int, accessFlags := 25, slot := 7, constantValue := 0 }, { name := "LOG2_ARRAY_FLOAT_INDEX_SCALE", type := .int, accessFlags := 25, slot := 8, constantValue := 0 }, { name := "LOG2_ARRAY_DOUBLE_INDEX_SCALE", type := .int, accessFlags := 25, slot := 9, constantValue := 0 }, { name := "LOG2_BYTE_BIT_SIZE", type := .int, accessFlags := 26, slot := 10, constantValue := 0 }, { name := "T_BOOLEAN", type := .int, accessFlags := 25, slot := 11, constantValue := 0 }, { name := "T_CHAR", type := .int, accessFlags := 25, slot := 12, constantValue := 0 }, { name := "T_FLOAT", type := .int, accessFlags := 25, slot := 13, constantValue := 0 }, { name := "T_DOUBLE", type := .int, accessFlags := 25, slot := 14, constantValue := 0 }, { name := "T_BYTE", type := .int, accessFlags := 25, slot := 15, constantValue := 0 }, { name := "T_SHORT", type := .int, accessFlags := 25, slot := 16, constantValue := 0 }, { name := "T_INT", type := .int, accessFlags := 25, slot := 17, constantValue := 0 }, { name := "T_LONG", type := .int, accessFlags := 25, slot := 18, constantValue := 0 }, { name := "JLA", type := (.object "jdk/internal/access/JavaLangAccess"), accessFlags := 26, slot := 19, constantValue := 0 }, { name := "SOFT_MAX_ARRAY_LENGTH", type := .int, accessFlags := 25, slot := 20, constantValue := 0 }]
  methods := #[k20m0, k20m1]
  instanceTypes := #[]
  staticTypes := #[(.object "jdk/internal/misc/Unsafe"), .boolean, .int, .int, .int, .int, .int, .int, .int, .int, .int, .int, .int, .int, .int, .int, .int, .int, .int, (.object "jdk/internal/access/JavaLangAccess"), .int]
  resolved := Array.replicate 378 none
  statics := none }

def pool21 : Array CpInfo := pool [(1, u "java/lang/Cloneable"), (0, .class_ 1), (0, u "java/lang/Object"), (0, .class_ 3)] 3

/-- java/lang/Cloneable -/
def k21 : Class := { plain "java/lang/Cloneable" (some 0) with
  accessFlags := 1537
  interfaces := #[]
  cf := some (fileOf pool21 2 #[] #[] 1537 4 #[] #[])
  fields := #[]
  methods := #[]
  instanceTypes := #[]
  staticTypes := #[]
  resolved := Array.replicate 8 none
  statics := none }

/-- the primitive byte -/
def k22 : Class := { plain "byte" none with kind := .primitive 'B', accessFlags := 0x411 }
/-- [B -/
def k23 : Class := { plain "[B" (some 0) with kind := .array 22 .byte, interfaces := #[21, 2], accessFlags := 1041 }

/-- the primitive char -/
def k24 : Class := { plain "char" none with kind := .primitive 'C', accessFlags := 0x411 }
/-- [C -/
def k25 : Class := { plain "[C" (some 0) with kind := .array 24 .char, interfaces := #[21, 2], accessFlags := 1041 }

/-- the primitive int -/
def k26 : Class := { plain "int" none with kind := .primitive 'I', accessFlags := 0x411 }
/-- [I -/
def k27 : Class := { plain "[I" (some 0) with kind := .array 26 .int, interfaces := #[21, 2], accessFlags := 1041 }

def heap : Heap := #[{ cls := 7, slots := #[.long 0, .int 1, .null, .int 0, .null, .int 0, .int 0], vm := .statics 7 },
  { cls := 18, slots := #[.null, .null, .null], vm := .statics 18 },
  { cls := 19, slots := #[.int 0, .int 8, .int 0, .int 1], vm := .statics 19 }]
def classes : Array Class := #[k0, k1, k2, k3, k4, k5, k6, k7, k8, k9, k10, k11, k12, k13, k14, k15, k16, k17, k18, k19, k20, k21, k22, k23, k24, k25, k26, k27]
def interned : List (Array UInt16 × Addr) := []
def slotsUsed : Nat := 14
def theMethod : MethodId := ⟨1, 2⟩
def args0 : Array Value := #[.int 5, .int 5, .int 5, .int 5, .int 5, .int 5]
def aboutOver (below : List Frame) : State where
  vm := { classes := classes, interned := interned.toArray }
  heap := heap
  slotsUsed := slotsUsed
  threads := #[{ frames := .invoking theMethod args0 :: below }]
def below0 : List Frame := [.native { method := ⟨0, 0⟩, args := #[] }]
def about1 : State := aboutOver below0
def p0 : Program := .bare "" "" ""
def e0 : Env := launch0.env 0 0 0
theorem w_frames : about1.frames = Frame.invoking theMethod args0 :: below0 := rfl
set_option maxRecDepth 65536 in
theorem w_args : argsFit about1.vm theMethod args0 = true := by decide +kernel
set_option maxRecDepth 65536 in
theorem w_heap : heapFits about1 = true := by decide +kernel
set_option maxRecDepth 65536 in
theorem w_runnable : about1.curStatus? = some .runnable := by decide +kernel
set_option maxRecDepth 65536 in
theorem w_alone : about1.alone = true := by decide +kernel
set_option maxRecDepth 65536 in
theorem w_named : about1.methodNamed? x = some theMethod := by decide +kernel
set_option maxRecDepth 65536 in
theorem w_hears : about1.hears theMethod below0 = true := by decide +kernel
set_option maxRecDepth 65536 in
theorem w_ripe : about1.ripe theMethod args0 below0 = true := by decide +kernel
theorem w_running : about1.status = .running := rfl
set_option maxRecDepth 65536 in
theorem w_room : about1.hasRoom e0.platform room_1 = true :=
  launch0.hasRoom_least _ room_1 (by decide +kernel) (by decide +kernel) (by decide +kernel) (by decide +kernel) (by decide +kernel) (by decide +kernel)
theorem allAtoms_all (ts : List Jvm.Cond) (a : Array Jvm.Value) (st : Jvm.State) : (allAtoms ts).before a st = ts.all (fun c => c.before a st) := by
  induction ts with
  | nil => rfl
  | cons c t ih =>
    show (Jvm.Cond.and c (allAtoms t)).before a st = _
    rw [Jvm.Cond.before_and, ih, List.all_cons]
def words1 : List Jvm.Cond := Jvm.Cond.code x code maxLocals ret :: tables_1
/-- a 'code' word, met by the world's own term for the bytes: nothing is compared byte by byte -/
theorem code_word {y : MethodName} {bytes : ByteArray} {mx : Nat} {rt : Option FieldType} {a : Array Value} {s : State} {m : MethodId} {meth : Method} {c : Code} (h1 : s.methodNamed? y = some m) (h2 : s.vm.method? m = some meth) (h3 : meth.code = some c) (h4 : c.code = bytes)
    (h5 : (c.maxLocals == mx && c.exceptionTable.isEmpty && decide (c.maxStack ≤ mostOperands) && decide (meth.sig.returnType = rt) && !meth.locks && decide (parseMethodDescriptor y.desc = some meth.sig)) = true) : (Jvm.Cond.code y bytes mx rt).before a s = true := by
  simp only [Bool.and_eq_true, beq_iff_eq, Bool.not_eq_true', decide_eq_true_eq] at h5
  obtain ⟨⟨⟨⟨⟨g1, g2⟩, g3⟩, g4⟩, g5⟩, g6⟩ := h5
  simp [Cond.before, Cond.holds, Cond.value, h1, h2, h3, h4, g1, g2, g3, g4, g5, g6]
def isCode : Jvm.Cond → Bool
  | .code _ _ _ _ => true
  | _ => false
theorem all_split {L : List Jvm.Cond} {P : Jvm.Cond → Bool} (h1 : L.all (fun c => isCode c || P c) = true) (h2 : ∀ c ∈ L.filter isCode, P c = true) : L.all P = true := by
  refine List.all_eq_true.mpr fun c hc => ?_
  have h := List.all_eq_true.mp h1 c hc
  rcases Bool.eq_false_or_eq_true (isCode c) with hi | hi
  · exact h2 c (List.mem_filter.mpr ⟨hc, hi⟩)
  · simpa [hi] using h
set_option maxRecDepth 65536 in
theorem w_c0 : (Jvm.Cond.code x code maxLocals ret).before args0 about1 = true := code_word (m := ⟨1, 2⟩) (meth := k1m2) (c := k1c2) (by decide +kernel) rfl rfl rfl (by decide +kernel)
set_option maxRecDepth 65536 in
theorem w_c1 : (Jvm.Cond.code ({ cls := "com/example/pricefence/pricefence/io/InputExceptionQuotePinLaw", name := "make", desc := "(I)[C" } : Jvm.MethodName) method_2_code (2 : Nat) (Option.some (Jvm.ClassFile.FieldType.array Jvm.ClassFile.FieldType.char))).before args0 about1 = true := code_word (m := ⟨1, 1⟩) (meth := k1m1) (c := k1c1) (by decide +kernel) rfl rfl rfl (by decide +kernel)
set_option maxRecDepth 65536 in
theorem w_c2 : (Jvm.Cond.code ({ cls := "java/lang/String", name := "<init>", desc := "([C)V" } : Jvm.MethodName) jdk_42_method_3_code (2 : Nat) (Option.none : Option Jvm.ClassFile.FieldType)).before args0 about1 = true := code_word (m := ⟨7, 1⟩) (meth := k7m1) (c := k7c1) (by decide +kernel) rfl rfl rfl (by decide +kernel)
set_option maxRecDepth 65536 in
theorem w_c3 : (Jvm.Cond.code ({ cls := "java/lang/String", name := "<init>", desc := "([CIILjava/lang/Void;)V" } : Jvm.MethodName) jdk_42_method_149_code (6 : Nat) (Option.none : Option Jvm.ClassFile.FieldType)).before args0 about1 = true := code_word (m := ⟨7, 7⟩) (meth := k7m7) (c := k7c7) (by decide +kernel) rfl rfl rfl (by decide +kernel)
set_option maxRecDepth 65536 in
theorem w_c4 : (Jvm.Cond.code ({ cls := "java/lang/Object", name := "<init>", desc := "()V" } : Jvm.MethodName) object_method_1_code (1 : Nat) (Option.none : Option Jvm.ClassFile.FieldType)).before args0 about1 = true := code_word (m := ⟨0, 0⟩) (meth := k0m0) (c := k0c0) (by decide +kernel) rfl rfl rfl (by decide +kernel)
set_option maxRecDepth 65536 in
theorem w_c5 : (Jvm.Cond.code ({ cls := "com/example/pricefence/pricefence/io/InputException", name := "quote", desc := "(Ljava/lang/String;)Ljava/lang/String;" } : Jvm.MethodName) prog_25_method_3_code (1 : Nat) (Option.some (Jvm.ClassFile.FieldType.object "java/lang/String"))).before args0 about1 = true := code_word (m := ⟨10, 0⟩) (meth := k10m0) (c := k10c0) (by decide +kernel) rfl rfl rfl (by decide +kernel)
set_option maxRecDepth 65536 in
theorem w_c6 : (Jvm.Cond.code ({ cls := "java/lang/String", name := "length", desc := "()I" } : Jvm.MethodName) jdk_42_method_54_code (1 : Nat) (Option.some Jvm.ClassFile.FieldType.int)).before args0 about1 = true := code_word (m := ⟨7, 3⟩) (meth := k7m3) (c := k7c3) (by decide +kernel) rfl rfl rfl (by decide +kernel)
set_option maxRecDepth 65536 in
theorem w_c7 : (Jvm.Cond.code ({ cls := "java/lang/String", name := "coder", desc := "()B" } : Jvm.MethodName) jdk_42_method_152_code (1 : Nat) (Option.some Jvm.ClassFile.FieldType.byte)).before args0 about1 = true := code_word (m := ⟨7, 10⟩) (meth := k7m10) (c := k7c10) (by decide +kernel) rfl rfl rfl (by decide +kernel)
set_option maxRecDepth 65536 in
theorem w_c8 : (Jvm.Cond.code ({ cls := "java/lang/StringBuilder", name := "<init>", desc := "()V" } : Jvm.MethodName) jdk_67_method_1_code (1 : Nat) (Option.none : Option Jvm.ClassFile.FieldType)).before args0 about1 = true := code_word (m := ⟨13, 0⟩) (meth := k13m0) (c := k13c0) (by decide +kernel) rfl rfl rfl (by decide +kernel)
set_option maxRecDepth 65536 in
theorem w_c9 : (Jvm.Cond.code ({ cls := "java/lang/AbstractStringBuilder", name := "<init>", desc := "(I)V" } : Jvm.MethodName) jdk_68_method_2_code (2 : Nat) (Option.none : Option Jvm.ClassFile.FieldType)).before args0 about1 = true := code_word (m := ⟨12, 1⟩) (meth := k12m1) (c := k12c1) (by decide +kernel) rfl rfl rfl (by decide +kernel)
set_option maxRecDepth 65536 in
theorem w_c10 : (Jvm.Cond.code ({ cls := "java/lang/StringBuilder", name := "append", desc := "(Ljava/lang/String;)Ljava/lang/StringBuilder;" } : Jvm.MethodName) jdk_67_method_7_code (2 : Nat) (Option.some (Jvm.ClassFile.FieldType.object "java/lang/StringBuilder"))).before args0 about1 = true := code_word (m := ⟨13, 1⟩) (meth := k13m1) (c := k13c1) (by decide +kernel) rfl rfl rfl (by decide +kernel)
set_option maxRecDepth 65536 in
theorem w_c11 : (Jvm.Cond.code ({ cls := "java/lang/AbstractStringBuilder", name := "append", desc := "(Ljava/lang/String;)Ljava/lang/AbstractStringBuilder;" } : Jvm.MethodName) jdk_68_method_22_code (3 : Nat) (Option.some (Jvm.ClassFile.FieldType.object "java/lang/AbstractStringBuilder"))).before args0 about1 = true := code_word (m := ⟨12, 6⟩) (meth := k12m6) (c := k12c6) (by decide +kernel) rfl rfl rfl (by decide +kernel)
set_option maxRecDepth 65536 in
theorem w_c12 : (Jvm.Cond.code ({ cls := "java/lang/AbstractStringBuilder", name := "ensureCapacityInternal", desc := "(I)V" } : Jvm.MethodName) jdk_68_method_9_code (3 : Nat) (Option.none : Option Jvm.ClassFile.FieldType)).before args0 about1 = true := code_word (m := ⟨12, 3⟩) (meth := k12m3) (c := k12c3) (by decide +kernel) rfl rfl rfl (by decide +kernel)
set_option maxRecDepth 65536 in
theorem w_c13 : (Jvm.Cond.code ({ cls := "java/lang/AbstractStringBuilder", name := "putStringAt", desc := "(ILjava/lang/String;)V" } : Jvm.MethodName) jdk_68_method_73_code (3 : Nat) (Option.none : Option Jvm.ClassFile.FieldType)).before args0 about1 = true := code_word (m := ⟨12, 10⟩) (meth := k12m10) (c := k12c10) (by decide +kernel) rfl rfl rfl (by decide +kernel)
set_option maxRecDepth 65536 in
theorem w_c14 : (Jvm.Cond.code ({ cls := "java/lang/AbstractStringBuilder", name := "inflateIfNeededFor", desc := "(Ljava/lang/String;)V" } : Jvm.MethodName) jdk_68_method_71_code (2 : Nat) (Option.none : Option Jvm.ClassFile.FieldType)).before args0 about1 = true := code_word (m := ⟨12, 9⟩) (meth := k12m9) (c := k12c9) (by decide +kernel) rfl rfl rfl (by decide +kernel)
set_option maxRecDepth 65536 in
theorem w_c15 : (Jvm.Cond.code ({ cls := "java/lang/String", name := "getBytes", desc := "([BIB)V" } : Jvm.MethodName) jdk_42_method_147_code (4 : Nat) (Option.none : Option Jvm.ClassFile.FieldType)).before args0 about1 = true := code_word (m := ⟨7, 6⟩) (meth := k7m6) (c := k7c6) (by decide +kernel) rfl rfl rfl (by decide +kernel)
set_option maxRecDepth 65536 in
theorem w_c16 : (Jvm.Cond.code ({ cls := "java/lang/StringBuilder", name := "toString", desc := "()Ljava/lang/String;" } : Jvm.MethodName) jdk_67_method_42_code (1 : Nat) (Option.some (Jvm.ClassFile.FieldType.object "java/lang/String"))).before args0 about1 = true := code_word (m := ⟨13, 2⟩) (meth := k13m2) (c := k13c2) (by decide +kernel) rfl rfl rfl (by decide +kernel)
set_option maxRecDepth 65536 in
theorem w_c17 : (Jvm.Cond.code ({ cls := "java/lang/String", name := "<init>", desc := "(Ljava/lang/StringBuilder;)V" } : Jvm.MethodName) jdk_42_method_53_code (2 : Nat) (Option.none : Option Jvm.ClassFile.FieldType)).before args0 about1 = true := code_word (m := ⟨7, 2⟩) (meth := k7m2) (c := k7c2) (by decide +kernel) rfl rfl rfl (by decide +kernel)
set_option maxRecDepth 65536 in
theorem w_c18 : (Jvm.Cond.code ({ cls := "java/lang/String", name := "<init>", desc := "(Ljava/lang/AbstractStringBuilder;Ljava/lang/Void;)V" } : Jvm.MethodName) jdk_42_method_150_code (5 : Nat) (Option.none : Option Jvm.ClassFile.FieldType)).before args0 about1 = true := code_word (m := ⟨7, 8⟩) (meth := k7m8) (c := k7c8) (by decide +kernel) rfl rfl rfl (by decide +kernel)
set_option maxRecDepth 65536 in
theorem w_c19 : (Jvm.Cond.code ({ cls := "java/lang/AbstractStringBuilder", name := "getValue", desc := "()[B" } : Jvm.MethodName) jdk_68_method_64_code (1 : Nat) (Option.some (Jvm.ClassFile.FieldType.array Jvm.ClassFile.FieldType.byte))).before args0 about1 = true := code_word (m := ⟨12, 7⟩) (meth := k12m7) (c := k12c7) (by decide +kernel) rfl rfl rfl (by decide +kernel)
set_option maxRecDepth 65536 in
theorem w_c20 : (Jvm.Cond.code ({ cls := "java/lang/StringBuilder", name := "length", desc := "()I" } : Jvm.MethodName) jdk_67_method_93_code (1 : Nat) (Option.some Jvm.ClassFile.FieldType.int)).before args0 about1 = true := code_word (m := ⟨13, 3⟩) (meth := k13m3) (c := k13c3) (by decide +kernel) rfl rfl rfl (by decide +kernel)
set_option maxRecDepth 65536 in
theorem w_c21 : (Jvm.Cond.code ({ cls := "java/lang/AbstractStringBuilder", name := "length", desc := "()I" } : Jvm.MethodName) jdk_68_method_6_code (1 : Nat) (Option.some Jvm.ClassFile.FieldType.int)).before args0 about1 = true := code_word (m := ⟨12, 2⟩) (meth := k12m2) (c := k12c2) (by decide +kernel) rfl rfl rfl (by decide +kernel)
set_option maxRecDepth 65536 in
theorem w_c22 : (Jvm.Cond.code ({ cls := "java/lang/AbstractStringBuilder", name := "isLatin1", desc := "()Z" } : Jvm.MethodName) jdk_68_method_68_code (1 : Nat) (Option.some Jvm.ClassFile.FieldType.boolean)).before args0 about1 = true := code_word (m := ⟨12, 8⟩) (meth := k12m8) (c := k12c8) (by decide +kernel) rfl rfl rfl (by decide +kernel)
set_option maxRecDepth 65536 in
theorem w_c23 : (Jvm.Cond.code ({ cls := "java/util/Arrays", name := "copyOfRange", desc := "([BII)[B" } : Jvm.MethodName) jdk_65_method_132_code (3 : Nat) (Option.some (Jvm.ClassFile.FieldType.array Jvm.ClassFile.FieldType.byte))).before args0 about1 = true := code_word (m := ⟨15, 3⟩) (meth := k15m3) (c := k15c3) (by decide +kernel) rfl rfl rfl (by decide +kernel)
set_option maxRecDepth 65536 in
theorem w_c24 : (Jvm.Cond.code ({ cls := "java/util/Arrays", name := "copyOfRangeByte", desc := "([BII)[B" } : Jvm.MethodName) jdk_65_method_133_code (5 : Nat) (Option.some (Jvm.ClassFile.FieldType.array Jvm.ClassFile.FieldType.byte))).before args0 about1 = true := code_word (m := ⟨15, 4⟩) (meth := k15m4) (c := k15c4) (by decide +kernel) rfl rfl rfl (by decide +kernel)
set_option maxRecDepth 65536 in
theorem w_c25 : (Jvm.Cond.code ({ cls := "java/util/Arrays", name := "checkLength", desc := "(II)V" } : Jvm.MethodName) jdk_65_method_131_code (2 : Nat) (Option.none : Option Jvm.ClassFile.FieldType)).before args0 about1 = true := code_word (m := ⟨15, 2⟩) (meth := k15m2) (c := k15c2) (by decide +kernel) rfl rfl rfl (by decide +kernel)
set_option maxRecDepth 65536 in
theorem w_c26 : (Jvm.Cond.code ({ cls := "java/lang/Math", name := "min", desc := "(II)I" } : Jvm.MethodName) jdk_29_method_69_code (2 : Nat) (Option.some Jvm.ClassFile.FieldType.int)).before args0 about1 = true := code_word (m := ⟨16, 2⟩) (meth := k16m2) (c := k16c2) (by decide +kernel) rfl rfl rfl (by decide +kernel)
set_option maxRecDepth 65536 in
theorem w_c27 : (Jvm.Cond.code ({ cls := "java/lang/String", name := "charAt", desc := "(I)C" } : Jvm.MethodName) jdk_42_method_56_code (2 : Nat) (Option.some Jvm.ClassFile.FieldType.char)).before args0 about1 = true := code_word (m := ⟨7, 4⟩) (meth := k7m4) (c := k7c4) (by decide +kernel) rfl rfl rfl (by decide +kernel)
set_option maxRecDepth 65536 in
theorem w_c28 : (Jvm.Cond.code ({ cls := "java/lang/String", name := "isLatin1", desc := "()Z" } : Jvm.MethodName) jdk_42_method_154_code (1 : Nat) (Option.some Jvm.ClassFile.FieldType.boolean)).before args0 about1 = true := code_word (m := ⟨7, 11⟩) (meth := k7m11) (c := k7c11) (by decide +kernel) rfl rfl rfl (by decide +kernel)
set_option maxRecDepth 65536 in
theorem w_c29 : (Jvm.Cond.code ({ cls := "java/lang/StringLatin1", name := "charAt", desc := "([BI)C" } : Jvm.MethodName) jdk_43_method_2_code (2 : Nat) (Option.some Jvm.ClassFile.FieldType.char)).before args0 about1 = true := code_word (m := ⟨17, 1⟩) (meth := k17m1) (c := k17c1) (by decide +kernel) rfl rfl rfl (by decide +kernel)
set_option maxRecDepth 65536 in
theorem w_c30 : (Jvm.Cond.code ({ cls := "java/lang/String", name := "checkIndex", desc := "(II)V" } : Jvm.MethodName) jdk_42_method_155_code (2 : Nat) (Option.none : Option Jvm.ClassFile.FieldType)).before args0 about1 = true := code_word (m := ⟨7, 12⟩) (meth := k7m12) (c := k7c12) (by decide +kernel) rfl rfl rfl (by decide +kernel)
set_option maxRecDepth 65536 in
theorem w_c31 : (Jvm.Cond.code ({ cls := "jdk/internal/util/Preconditions", name := "checkIndex", desc := "(IILjava/util/function/BiFunction;)I" } : Jvm.MethodName) jdk_41_method_11_code (3 : Nat) (Option.some Jvm.ClassFile.FieldType.int)).before args0 about1 = true := code_word (m := ⟨18, 1⟩) (meth := k18m1) (c := k18c1) (by decide +kernel) rfl rfl rfl (by decide +kernel)
set_option maxRecDepth 65536 in
theorem w_c32 : (Jvm.Cond.code ({ cls := "java/lang/StringUTF16", name := "compress", desc := "([CII)[B" } : Jvm.MethodName) jdk_52_method_16_code (6 : Nat) (Option.some (Jvm.ClassFile.FieldType.array Jvm.ClassFile.FieldType.byte))).before args0 about1 = true := code_word (m := ⟨19, 8⟩) (meth := k19m8) (c := k19c8) (by decide +kernel) rfl rfl rfl (by decide +kernel)
set_option maxRecDepth 65536 in
theorem w_c33 : (Jvm.Cond.code ({ cls := "java/lang/StringUTF16", name := "compress", desc := "([CI[BII)I" } : Jvm.MethodName) jdk_52_method_21_code (7 : Nat) (Option.some Jvm.ClassFile.FieldType.int)).before args0 about1 = true := code_word (m := ⟨19, 10⟩) (meth := k19m10) (c := k19c10) (by decide +kernel) rfl rfl rfl (by decide +kernel)
set_option maxRecDepth 65536 in
theorem w_c34 : (Jvm.Cond.code ({ cls := "java/lang/StringUTF16", name := "coderFromArrayLen", desc := "([BI)B" } : Jvm.MethodName) jdk_52_method_15_code (2 : Nat) (Option.some Jvm.ClassFile.FieldType.byte)).before args0 about1 = true := code_word (m := ⟨19, 7⟩) (meth := k19m7) (c := k19c7) (by decide +kernel) rfl rfl rfl (by decide +kernel)
set_option maxRecDepth 65536 in
theorem w_c35 : (Jvm.Cond.code ({ cls := "java/lang/AbstractStringBuilder", name := "newCapacity", desc := "(I)I" } : Jvm.MethodName) jdk_68_method_10_code (6 : Nat) (Option.some Jvm.ClassFile.FieldType.int)).before args0 about1 = true := code_word (m := ⟨12, 4⟩) (meth := k12m4) (c := k12c4) (by decide +kernel) rfl rfl rfl (by decide +kernel)
set_option maxRecDepth 65536 in
theorem w_c36 : (Jvm.Cond.code ({ cls := "jdk/internal/util/ArraysSupport", name := "newLength", desc := "(III)I" } : Jvm.MethodName) jdk_48_method_27_code (4 : Nat) (Option.some Jvm.ClassFile.FieldType.int)).before args0 about1 = true := code_word (m := ⟨20, 1⟩) (meth := k20m1) (c := k20c1) (by decide +kernel) rfl rfl rfl (by decide +kernel)
set_option maxRecDepth 65536 in
theorem w_c37 : (Jvm.Cond.code ({ cls := "java/lang/Math", name := "max", desc := "(II)I" } : Jvm.MethodName) jdk_29_method_65_code (2 : Nat) (Option.some Jvm.ClassFile.FieldType.int)).before args0 about1 = true := code_word (m := ⟨16, 1⟩) (meth := k16m1) (c := k16c1) (by decide +kernel) rfl rfl rfl (by decide +kernel)
set_option maxRecDepth 65536 in
theorem w_c38 : (Jvm.Cond.code ({ cls := "java/util/Arrays", name := "copyOf", desc := "([BI)[B" } : Jvm.MethodName) jdk_65_method_121_code (3 : Nat) (Option.some (Jvm.ClassFile.FieldType.array Jvm.ClassFile.FieldType.byte))).before args0 about1 = true := code_word (m := ⟨15, 1⟩) (meth := k15m1) (c := k15c1) (by decide +kernel) rfl rfl rfl (by decide +kernel)
set_option maxRecDepth 65536 in
theorem w_c39 : (Jvm.Cond.code ({ cls := "java/lang/String", name := "substring", desc := "(II)Ljava/lang/String;" } : Jvm.MethodName) jdk_42_method_92_code (5 : Nat) (Option.some (Jvm.ClassFile.FieldType.object "java/lang/String"))).before args0 about1 = true := code_word (m := ⟨7, 5⟩) (meth := k7m5) (c := k7c5) (by decide +kernel) rfl rfl rfl (by decide +kernel)
set_option maxRecDepth 65536 in
theorem w_c40 : (Jvm.Cond.code ({ cls := "java/lang/String", name := "checkBoundsBeginEnd", desc := "(III)V" } : Jvm.MethodName) jdk_42_method_158_code (3 : Nat) (Option.none : Option Jvm.ClassFile.FieldType)).before args0 about1 = true := code_word (m := ⟨7, 14⟩) (meth := k7m14) (c := k7c14) (by decide +kernel) rfl rfl rfl (by decide +kernel)
set_option maxRecDepth 65536 in
theorem w_c41 : (Jvm.Cond.code ({ cls := "jdk/internal/util/Preconditions", name := "checkFromToIndex", desc := "(IIILjava/util/function/BiFunction;)I" } : Jvm.MethodName) jdk_41_method_12_code (4 : Nat) (Option.some Jvm.ClassFile.FieldType.int)).before args0 about1 = true := code_word (m := ⟨18, 2⟩) (meth := k18m2) (c := k18c2) (by decide +kernel) rfl rfl rfl (by decide +kernel)
set_option maxRecDepth 65536 in
theorem w_c42 : (Jvm.Cond.code ({ cls := "java/lang/StringLatin1", name := "newString", desc := "([BII)Ljava/lang/String;" } : Jvm.MethodName) jdk_43_method_47_code (3 : Nat) (Option.some (Jvm.ClassFile.FieldType.object "java/lang/String"))).before args0 about1 = true := code_word (m := ⟨17, 2⟩) (meth := k17m2) (c := k17c2) (by decide +kernel) rfl rfl rfl (by decide +kernel)
set_option maxRecDepth 65536 in
theorem w_c43 : (Jvm.Cond.code ({ cls := "java/lang/String", name := "<init>", desc := "([BB)V" } : Jvm.MethodName) jdk_42_method_151_code (3 : Nat) (Option.none : Option Jvm.ClassFile.FieldType)).before args0 about1 = true := code_word (m := ⟨7, 9⟩) (meth := k7m9) (c := k7c9) (by decide +kernel) rfl rfl rfl (by decide +kernel)
set_option maxRecDepth 65536 in
theorem w_c44 : (Jvm.Cond.code ({ cls := "java/lang/StringUTF16", name := "toBytes", desc := "([CII)[B" } : Jvm.MethodName) jdk_52_method_14_code (5 : Nat) (Option.some (Jvm.ClassFile.FieldType.array Jvm.ClassFile.FieldType.byte))).before args0 about1 = true := code_word (m := ⟨19, 6⟩) (meth := k19m6) (c := k19c6) (by decide +kernel) rfl rfl rfl (by decide +kernel)
set_option maxRecDepth 65536 in
theorem w_c45 : (Jvm.Cond.code ({ cls := "java/lang/StringUTF16", name := "newBytesFor", desc := "(I)[B" } : Jvm.MethodName) jdk_52_method_2_code (1 : Nat) (Option.some (Jvm.ClassFile.FieldType.array Jvm.ClassFile.FieldType.byte))).before args0 about1 = true := code_word (m := ⟨19, 1⟩) (meth := k19m1) (c := k19c1) (by decide +kernel) rfl rfl rfl (by decide +kernel)
set_option maxRecDepth 65536 in
theorem w_c46 : (Jvm.Cond.code ({ cls := "java/lang/StringUTF16", name := "newBytesLength", desc := "(I)I" } : Jvm.MethodName) jdk_52_method_3_code (1 : Nat) (Option.some Jvm.ClassFile.FieldType.int)).before args0 about1 = true := code_word (m := ⟨19, 2⟩) (meth := k19m2) (c := k19c2) (by decide +kernel) rfl rfl rfl (by decide +kernel)
set_option maxRecDepth 65536 in
theorem w_c47 : (Jvm.Cond.code ({ cls := "java/lang/StringUTF16", name := "putChar", desc := "([BII)V" } : Jvm.MethodName) jdk_52_method_4_code (3 : Nat) (Option.none : Option Jvm.ClassFile.FieldType)).before args0 about1 = true := code_word (m := ⟨19, 3⟩) (meth := k19m3) (c := k19c3) (by decide +kernel) rfl rfl rfl (by decide +kernel)
set_option maxRecDepth 65536 in
theorem w_c48 : (Jvm.Cond.code ({ cls := "java/lang/StringUTF16", name := "getChar", desc := "([BI)C" } : Jvm.MethodName) jdk_52_method_5_code (2 : Nat) (Option.some Jvm.ClassFile.FieldType.char)).before args0 about1 = true := code_word (m := ⟨19, 4⟩) (meth := k19m4) (c := k19c4) (by decide +kernel) rfl rfl rfl (by decide +kernel)
set_option maxRecDepth 65536 in
theorem w_c49 : (Jvm.Cond.code ({ cls := "java/lang/AbstractStringBuilder", name := "inflate", desc := "()V" } : Jvm.MethodName) jdk_68_method_11_code (2 : Nat) (Option.none : Option Jvm.ClassFile.FieldType)).before args0 about1 = true := code_word (m := ⟨12, 5⟩) (meth := k12m5) (c := k12c5) (by decide +kernel) rfl rfl rfl (by decide +kernel)
set_option maxRecDepth 65536 in
theorem w_c50 : (Jvm.Cond.code ({ cls := "java/lang/StringLatin1", name := "inflate", desc := "([BI[BII)V" } : Jvm.MethodName) jdk_43_method_50_code (5 : Nat) (Option.none : Option Jvm.ClassFile.FieldType)).before args0 about1 = true := code_word (m := ⟨17, 3⟩) (meth := k17m3) (c := k17c3) (by decide +kernel) rfl rfl rfl (by decide +kernel)
set_option maxRecDepth 65536 in
theorem w_c51 : (Jvm.Cond.code ({ cls := "java/lang/StringUTF16", name := "inflate", desc := "([BI[BII)V" } : Jvm.MethodName) jdk_52_method_86_code (6 : Nat) (Option.none : Option Jvm.ClassFile.FieldType)).before args0 about1 = true := code_word (m := ⟨19, 14⟩) (meth := k19m14) (c := k19c14) (by decide +kernel) rfl rfl rfl (by decide +kernel)
set_option maxRecDepth 65536 in
theorem w_c52 : (Jvm.Cond.code ({ cls := "java/lang/StringUTF16", name := "checkBoundsOffCount", desc := "(II[B)V" } : Jvm.MethodName) jdk_52_method_94_code (3 : Nat) (Option.none : Option Jvm.ClassFile.FieldType)).before args0 about1 = true := code_word (m := ⟨19, 16⟩) (meth := k19m16) (c := k19c16) (by decide +kernel) rfl rfl rfl (by decide +kernel)
set_option maxRecDepth 65536 in
theorem w_c53 : (Jvm.Cond.code ({ cls := "java/lang/StringUTF16", name := "length", desc := "([B)I" } : Jvm.MethodName) jdk_52_method_6_code (1 : Nat) (Option.some Jvm.ClassFile.FieldType.int)).before args0 about1 = true := code_word (m := ⟨19, 5⟩) (meth := k19m5) (c := k19c5) (by decide +kernel) rfl rfl rfl (by decide +kernel)
set_option maxRecDepth 65536 in
theorem w_c54 : (Jvm.Cond.code ({ cls := "java/lang/String", name := "checkBoundsOffCount", desc := "(III)I" } : Jvm.MethodName) jdk_42_method_157_code (3 : Nat) (Option.some Jvm.ClassFile.FieldType.int)).before args0 about1 = true := code_word (m := ⟨7, 13⟩) (meth := k7m13) (c := k7c13) (by decide +kernel) rfl rfl rfl (by decide +kernel)
set_option maxRecDepth 65536 in
theorem w_c55 : (Jvm.Cond.code ({ cls := "jdk/internal/util/Preconditions", name := "checkFromIndexSize", desc := "(IIILjava/util/function/BiFunction;)I" } : Jvm.MethodName) jdk_41_method_13_code (4 : Nat) (Option.some Jvm.ClassFile.FieldType.int)).before args0 about1 = true := code_word (m := ⟨18, 3⟩) (meth := k18m3) (c := k18c3) (by decide +kernel) rfl rfl rfl (by decide +kernel)
set_option maxRecDepth 65536 in
theorem w_c56 : (Jvm.Cond.code ({ cls := "java/lang/StringUTF16", name := "charAt", desc := "([BI)C" } : Jvm.MethodName) jdk_52_method_83_code (2 : Nat) (Option.some Jvm.ClassFile.FieldType.char)).before args0 about1 = true := code_word (m := ⟨19, 13⟩) (meth := k19m13) (c := k19c13) (by decide +kernel) rfl rfl rfl (by decide +kernel)
set_option maxRecDepth 65536 in
theorem w_c57 : (Jvm.Cond.code ({ cls := "java/lang/StringUTF16", name := "checkIndex", desc := "(I[B)V" } : Jvm.MethodName) jdk_52_method_91_code (2 : Nat) (Option.none : Option Jvm.ClassFile.FieldType)).before args0 about1 = true := code_word (m := ⟨19, 15⟩) (meth := k19m15) (c := k19c15) (by decide +kernel) rfl rfl rfl (by decide +kernel)
set_option maxRecDepth 65536 in
theorem w_c58 : (Jvm.Cond.code ({ cls := "java/lang/StringUTF16", name := "newString", desc := "([BII)Ljava/lang/String;" } : Jvm.MethodName) jdk_52_method_69_code (5 : Nat) (Option.some (Jvm.ClassFile.FieldType.object "java/lang/String"))).before args0 about1 = true := code_word (m := ⟨19, 12⟩) (meth := k19m12) (c := k19c12) (by decide +kernel) rfl rfl rfl (by decide +kernel)
set_option maxRecDepth 65536 in
theorem w_c59 : (Jvm.Cond.code ({ cls := "java/lang/StringUTF16", name := "compress", desc := "([BII)[B" } : Jvm.MethodName) jdk_52_method_17_code (6 : Nat) (Option.some (Jvm.ClassFile.FieldType.array Jvm.ClassFile.FieldType.byte))).before args0 about1 = true := code_word (m := ⟨19, 9⟩) (meth := k19m9) (c := k19c9) (by decide +kernel) rfl rfl rfl (by decide +kernel)
set_option maxRecDepth 65536 in
theorem w_c60 : (Jvm.Cond.code ({ cls := "java/lang/StringUTF16", name := "compress", desc := "([BI[BII)I" } : Jvm.MethodName) jdk_52_method_22_code (7 : Nat) (Option.some Jvm.ClassFile.FieldType.int)).before args0 about1 = true := code_word (m := ⟨19, 11⟩) (meth := k19m11) (c := k19c11) (by decide +kernel) rfl rfl rfl (by decide +kernel)
def codes1 : List Jvm.Cond := [Jvm.Cond.code x code maxLocals ret, Jvm.Cond.code ({ cls := "com/example/pricefence/pricefence/io/InputExceptionQuotePinLaw", name := "make", desc := "(I)[C" } : Jvm.MethodName) method_2_code (2 : Nat) (Option.some (Jvm.ClassFile.FieldType.array Jvm.ClassFile.FieldType.char)), Jvm.Cond.code ({ cls := "java/lang/String", name := "<init>", desc := "([C)V" } : Jvm.MethodName) jdk_42_method_3_code (2 : Nat) (Option.none : Option Jvm.ClassFile.FieldType), Jvm.Cond.code ({ cls := "java/lang/String", name := "<init>", desc := "([CIILjava/lang/Void;)V" } : Jvm.MethodName) jdk_42_method_149_code (6 : Nat) (Option.none : Option Jvm.ClassFile.FieldType), Jvm.Cond.code ({ cls := "java/lang/Object", name := "<init>", desc := "()V" } : Jvm.MethodName) object_method_1_code (1 : Nat) (Option.none : Option Jvm.ClassFile.FieldType), Jvm.Cond.code ({ cls := "com/example/pricefence/pricefence/io/InputException", name := "quote", desc := "(Ljava/lang/String;)Ljava/lang/String;" } : Jvm.MethodName) prog_25_method_3_code (1 : Nat) (Option.some (Jvm.ClassFile.FieldType.object "java/lang/String")), Jvm.Cond.code ({ cls := "java/lang/String", name := "length", desc := "()I" } : Jvm.MethodName) jdk_42_method_54_code (1 : Nat) (Option.some Jvm.ClassFile.FieldType.int), Jvm.Cond.code ({ cls := "java/lang/String", name := "coder", desc := "()B" } : Jvm.MethodName) jdk_42_method_152_code (1 : Nat) (Option.some Jvm.ClassFile.FieldType.byte), Jvm.Cond.code ({ cls := "java/lang/StringBuilder", name := "<init>", desc := "()V" } : Jvm.MethodName) jdk_67_method_1_code (1 : Nat) (Option.none : Option Jvm.ClassFile.FieldType), Jvm.Cond.code ({ cls := "java/lang/AbstractStringBuilder", name := "<init>", desc := "(I)V" } : Jvm.MethodName) jdk_68_method_2_code (2 : Nat) (Option.none : Option Jvm.ClassFile.FieldType), Jvm.Cond.code ({ cls := "java/lang/StringBuilder", name := "append", desc := "(Ljava/lang/String;)Ljava/lang/StringBuilder;" } : Jvm.MethodName) jdk_67_method_7_code (2 : Nat) (Option.some (Jvm.ClassFile.FieldType.object "java/lang/StringBuilder")), Jvm.Cond.code ({ cls := "java/lang/AbstractStringBuilder", name := "append", desc := "(Ljava/lang/String;)Ljava/lang/AbstractStringBuilder;" } : Jvm.MethodName) jdk_68_method_22_code (3 : Nat) (Option.some (Jvm.ClassFile.FieldType.object "java/lang/AbstractStringBuilder")), Jvm.Cond.code ({ cls := "java/lang/AbstractStringBuilder", name := "ensureCapacityInternal", desc := "(I)V" } : Jvm.MethodName) jdk_68_method_9_code (3 : Nat) (Option.none : Option Jvm.ClassFile.FieldType), Jvm.Cond.code ({ cls := "java/lang/AbstractStringBuilder", name := "putStringAt", desc := "(ILjava/lang/String;)V" } : Jvm.MethodName) jdk_68_method_73_code (3 : Nat) (Option.none : Option Jvm.ClassFile.FieldType), Jvm.Cond.code ({ cls := "java/lang/AbstractStringBuilder", name := "inflateIfNeededFor", desc := "(Ljava/lang/String;)V" } : Jvm.MethodName) jdk_68_method_71_code (2 : Nat) (Option.none : Option Jvm.ClassFile.FieldType), Jvm.Cond.code ({ cls := "java/lang/String", name := "getBytes", desc := "([BIB)V" } : Jvm.MethodName) jdk_42_method_147_code (4 : Nat) (Option.none : Option Jvm.ClassFile.FieldType), Jvm.Cond.code ({ cls := "java/lang/StringBuilder", name := "toString", desc := "()Ljava/lang/String;" } : Jvm.MethodName) jdk_67_method_42_code (1 : Nat) (Option.some (Jvm.ClassFile.FieldType.object "java/lang/String")), Jvm.Cond.code ({ cls := "java/lang/String", name := "<init>", desc := "(Ljava/lang/StringBuilder;)V" } : Jvm.MethodName) jdk_42_method_53_code (2 : Nat) (Option.none : Option Jvm.ClassFile.FieldType), Jvm.Cond.code ({ cls := "java/lang/String", name := "<init>", desc := "(Ljava/lang/AbstractStringBuilder;Ljava/lang/Void;)V" } : Jvm.MethodName) jdk_42_method_150_code (5 : Nat) (Option.none : Option Jvm.ClassFile.FieldType), Jvm.Cond.code ({ cls := "java/lang/AbstractStringBuilder", name := "getValue", desc := "()[B" } : Jvm.MethodName) jdk_68_method_64_code (1 : Nat) (Option.some (Jvm.ClassFile.FieldType.array Jvm.ClassFile.FieldType.byte)), Jvm.Cond.code ({ cls := "java/lang/StringBuilder", name := "length", desc := "()I" } : Jvm.MethodName) jdk_67_method_93_code (1 : Nat) (Option.some Jvm.ClassFile.FieldType.int), Jvm.Cond.code ({ cls := "java/lang/AbstractStringBuilder", name := "length", desc := "()I" } : Jvm.MethodName) jdk_68_method_6_code (1 : Nat) (Option.some Jvm.ClassFile.FieldType.int), Jvm.Cond.code ({ cls := "java/lang/AbstractStringBuilder", name := "isLatin1", desc := "()Z" } : Jvm.MethodName) jdk_68_method_68_code (1 : Nat) (Option.some Jvm.ClassFile.FieldType.boolean), Jvm.Cond.code ({ cls := "java/util/Arrays", name := "copyOfRange", desc := "([BII)[B" } : Jvm.MethodName) jdk_65_method_132_code (3 : Nat) (Option.some (Jvm.ClassFile.FieldType.array Jvm.ClassFile.FieldType.byte)), Jvm.Cond.code ({ cls := "java/util/Arrays", name := "copyOfRangeByte", desc := "([BII)[B" } : Jvm.MethodName) jdk_65_method_133_code (5 : Nat) (Option.some (Jvm.ClassFile.FieldType.array Jvm.ClassFile.FieldType.byte)), Jvm.Cond.code ({ cls := "java/util/Arrays", name := "checkLength", desc := "(II)V" } : Jvm.MethodName) jdk_65_method_131_code (2 : Nat) (Option.none : Option Jvm.ClassFile.FieldType), Jvm.Cond.code ({ cls := "java/lang/Math", name := "min", desc := "(II)I" } : Jvm.MethodName) jdk_29_method_69_code (2 : Nat) (Option.some Jvm.ClassFile.FieldType.int), Jvm.Cond.code ({ cls := "java/lang/String", name := "charAt", desc := "(I)C" } : Jvm.MethodName) jdk_42_method_56_code (2 : Nat) (Option.some Jvm.ClassFile.FieldType.char), Jvm.Cond.code ({ cls := "java/lang/String", name := "isLatin1", desc := "()Z" } : Jvm.MethodName) jdk_42_method_154_code (1 : Nat) (Option.some Jvm.ClassFile.FieldType.boolean), Jvm.Cond.code ({ cls := "java/lang/StringLatin1", name := "charAt", desc := "([BI)C" } : Jvm.MethodName) jdk_43_method_2_code (2 : Nat) (Option.some Jvm.ClassFile.FieldType.char), Jvm.Cond.code ({ cls := "java/lang/String", name := "checkIndex", desc := "(II)V" } : Jvm.MethodName) jdk_42_method_155_code (2 : Nat) (Option.none : Option Jvm.ClassFile.FieldType), Jvm.Cond.code ({ cls := "jdk/internal/util/Preconditions", name := "checkIndex", desc := "(IILjava/util/function/BiFunction;)I" } : Jvm.MethodName) jdk_41_method_11_code (3 : Nat) (Option.some Jvm.ClassFile.FieldType.int), Jvm.Cond.code ({ cls := "java/lang/StringUTF16", name := "compress", desc := "([CII)[B" } : Jvm.MethodName) jdk_52_method_16_code (6 : Nat) (Option.some (Jvm.ClassFile.FieldType.array Jvm.ClassFile.FieldType.byte)), Jvm.Cond.code ({ cls := "java/lang/StringUTF16", name := "compress", desc := "([CI[BII)I" } : Jvm.MethodName) jdk_52_method_21_code (7 : Nat) (Option.some Jvm.ClassFile.FieldType.int), Jvm.Cond.code ({ cls := "java/lang/StringUTF16", name := "coderFromArrayLen", desc := "([BI)B" } : Jvm.MethodName) jdk_52_method_15_code (2 : Nat) (Option.some Jvm.ClassFile.FieldType.byte), Jvm.Cond.code ({ cls := "java/lang/AbstractStringBuilder", name := "newCapacity", desc := "(I)I" } : Jvm.MethodName) jdk_68_method_10_code (6 : Nat) (Option.some Jvm.ClassFile.FieldType.int), Jvm.Cond.code ({ cls := "jdk/internal/util/ArraysSupport", name := "newLength", desc := "(III)I" } : Jvm.MethodName) jdk_48_method_27_code (4 : Nat) (Option.some Jvm.ClassFile.FieldType.int), Jvm.Cond.code ({ cls := "java/lang/Math", name := "max", desc := "(II)I" } : Jvm.MethodName) jdk_29_method_65_code (2 : Nat) (Option.some Jvm.ClassFile.FieldType.int), Jvm.Cond.code ({ cls := "java/util/Arrays", name := "copyOf", desc := "([BI)[B" } : Jvm.MethodName) jdk_65_method_121_code (3 : Nat) (Option.some (Jvm.ClassFile.FieldType.array Jvm.ClassFile.FieldType.byte)), Jvm.Cond.code ({ cls := "java/lang/String", name := "substring", desc := "(II)Ljava/lang/String;" } : Jvm.MethodName) jdk_42_method_92_code (5 : Nat) (Option.some (Jvm.ClassFile.FieldType.object "java/lang/String")), Jvm.Cond.code ({ cls := "java/lang/String", name := "checkBoundsBeginEnd", desc := "(III)V" } : Jvm.MethodName) jdk_42_method_158_code (3 : Nat) (Option.none : Option Jvm.ClassFile.FieldType), Jvm.Cond.code ({ cls := "jdk/internal/util/Preconditions", name := "checkFromToIndex", desc := "(IIILjava/util/function/BiFunction;)I" } : Jvm.MethodName) jdk_41_method_12_code (4 : Nat) (Option.some Jvm.ClassFile.FieldType.int), Jvm.Cond.code ({ cls := "java/lang/StringLatin1", name := "newString", desc := "([BII)Ljava/lang/String;" } : Jvm.MethodName) jdk_43_method_47_code (3 : Nat) (Option.some (Jvm.ClassFile.FieldType.object "java/lang/String")), Jvm.Cond.code ({ cls := "java/lang/String", name := "<init>", desc := "([BB)V" } : Jvm.MethodName) jdk_42_method_151_code (3 : Nat) (Option.none : Option Jvm.ClassFile.FieldType), Jvm.Cond.code ({ cls := "java/lang/StringUTF16", name := "toBytes", desc := "([CII)[B" } : Jvm.MethodName) jdk_52_method_14_code (5 : Nat) (Option.some (Jvm.ClassFile.FieldType.array Jvm.ClassFile.FieldType.byte)), Jvm.Cond.code ({ cls := "java/lang/StringUTF16", name := "newBytesFor", desc := "(I)[B" } : Jvm.MethodName) jdk_52_method_2_code (1 : Nat) (Option.some (Jvm.ClassFile.FieldType.array Jvm.ClassFile.FieldType.byte)), Jvm.Cond.code ({ cls := "java/lang/StringUTF16", name := "newBytesLength", desc := "(I)I" } : Jvm.MethodName) jdk_52_method_3_code (1 : Nat) (Option.some Jvm.ClassFile.FieldType.int), Jvm.Cond.code ({ cls := "java/lang/StringUTF16", name := "putChar", desc := "([BII)V" } : Jvm.MethodName) jdk_52_method_4_code (3 : Nat) (Option.none : Option Jvm.ClassFile.FieldType), Jvm.Cond.code ({ cls := "java/lang/StringUTF16", name := "getChar", desc := "([BI)C" } : Jvm.MethodName) jdk_52_method_5_code (2 : Nat) (Option.some Jvm.ClassFile.FieldType.char), Jvm.Cond.code ({ cls := "java/lang/AbstractStringBuilder", name := "inflate", desc := "()V" } : Jvm.MethodName) jdk_68_method_11_code (2 : Nat) (Option.none : Option Jvm.ClassFile.FieldType), Jvm.Cond.code ({ cls := "java/lang/StringLatin1", name := "inflate", desc := "([BI[BII)V" } : Jvm.MethodName) jdk_43_method_50_code (5 : Nat) (Option.none : Option Jvm.ClassFile.FieldType), Jvm.Cond.code ({ cls := "java/lang/StringUTF16", name := "inflate", desc := "([BI[BII)V" } : Jvm.MethodName) jdk_52_method_86_code (6 : Nat) (Option.none : Option Jvm.ClassFile.FieldType), Jvm.Cond.code ({ cls := "java/lang/StringUTF16", name := "checkBoundsOffCount", desc := "(II[B)V" } : Jvm.MethodName) jdk_52_method_94_code (3 : Nat) (Option.none : Option Jvm.ClassFile.FieldType), Jvm.Cond.code ({ cls := "java/lang/StringUTF16", name := "length", desc := "([B)I" } : Jvm.MethodName) jdk_52_method_6_code (1 : Nat) (Option.some Jvm.ClassFile.FieldType.int), Jvm.Cond.code ({ cls := "java/lang/String", name := "checkBoundsOffCount", desc := "(III)I" } : Jvm.MethodName) jdk_42_method_157_code (3 : Nat) (Option.some Jvm.ClassFile.FieldType.int), Jvm.Cond.code ({ cls := "jdk/internal/util/Preconditions", name := "checkFromIndexSize", desc := "(IIILjava/util/function/BiFunction;)I" } : Jvm.MethodName) jdk_41_method_13_code (4 : Nat) (Option.some Jvm.ClassFile.FieldType.int), Jvm.Cond.code ({ cls := "java/lang/StringUTF16", name := "charAt", desc := "([BI)C" } : Jvm.MethodName) jdk_52_method_83_code (2 : Nat) (Option.some Jvm.ClassFile.FieldType.char), Jvm.Cond.code ({ cls := "java/lang/StringUTF16", name := "checkIndex", desc := "(I[B)V" } : Jvm.MethodName) jdk_52_method_91_code (2 : Nat) (Option.none : Option Jvm.ClassFile.FieldType), Jvm.Cond.code ({ cls := "java/lang/StringUTF16", name := "newString", desc := "([BII)Ljava/lang/String;" } : Jvm.MethodName) jdk_52_method_69_code (5 : Nat) (Option.some (Jvm.ClassFile.FieldType.object "java/lang/String")), Jvm.Cond.code ({ cls := "java/lang/StringUTF16", name := "compress", desc := "([BII)[B" } : Jvm.MethodName) jdk_52_method_17_code (6 : Nat) (Option.some (Jvm.ClassFile.FieldType.array Jvm.ClassFile.FieldType.byte)), Jvm.Cond.code ({ cls := "java/lang/StringUTF16", name := "compress", desc := "([BI[BII)I" } : Jvm.MethodName) jdk_52_method_22_code (7 : Nat) (Option.some Jvm.ClassFile.FieldType.int)]
set_option maxRecDepth 65536 in
theorem codes_eq : words1.filter isCode = codes1 := rfl
theorem w_codes : ∀ c ∈ words1.filter isCode, c.before args0 about1 = true := by
  rw [codes_eq]
  intro c hc
  simp only [codes1, List.mem_cons, List.not_mem_nil, or_false] at hc
  rcases hc with rfl | rfl | rfl | rfl | rfl | rfl | rfl | rfl | rfl | rfl | rfl | rfl | rfl | rfl | rfl | rfl | rfl | rfl | rfl | rfl | rfl | rfl | rfl | rfl | rfl | rfl | rfl | rfl | rfl | rfl | rfl | rfl | rfl | rfl | rfl | rfl | rfl | rfl | rfl | rfl | rfl | rfl | rfl | rfl | rfl | rfl | rfl | rfl | rfl | rfl | rfl | rfl | rfl | rfl | rfl | rfl | rfl | rfl | rfl | rfl | rfl
  · exact w_c0
  · exact w_c1
  · exact w_c2
  · exact w_c3
  · exact w_c4
  · exact w_c5
  · exact w_c6
  · exact w_c7
  · exact w_c8
  · exact w_c9
  · exact w_c10
  · exact w_c11
  · exact w_c12
  · exact w_c13
  · exact w_c14
  · exact w_c15
  · exact w_c16
  · exact w_c17
  · exact w_c18
  · exact w_c19
  · exact w_c20
  · exact w_c21
  · exact w_c22
  · exact w_c23
  · exact w_c24
  · exact w_c25
  · exact w_c26
  · exact w_c27
  · exact w_c28
  · exact w_c29
  · exact w_c30
  · exact w_c31
  · exact w_c32
  · exact w_c33
  · exact w_c34
  · exact w_c35
  · exact w_c36
  · exact w_c37
  · exact w_c38
  · exact w_c39
  · exact w_c40
  · exact w_c41
  · exact w_c42
  · exact w_c43
  · exact w_c44
  · exact w_c45
  · exact w_c46
  · exact w_c47
  · exact w_c48
  · exact w_c49
  · exact w_c50
  · exact w_c51
  · exact w_c52
  · exact w_c53
  · exact w_c54
  · exact w_c55
  · exact w_c56
  · exact w_c57
  · exact w_c58
  · exact w_c59
  · exact w_c60
set_option maxRecDepth 65536 in
theorem w_t1 : (words1.take 24).all (fun c => isCode c || c.before args0 about1) = true := by decide +kernel
set_option maxRecDepth 65536 in
theorem w_t2 : ((words1.drop 24).take 24).all (fun c => isCode c || c.before args0 about1) = true := by decide +kernel
set_option maxRecDepth 65536 in
theorem w_t3 : (((words1.drop 24).drop 24).take 24).all (fun c => isCode c || c.before args0 about1) = true := by decide +kernel
set_option maxRecDepth 65536 in
theorem w_t4 : ((((words1.drop 24).drop 24).drop 24).take 24).all (fun c => isCode c || c.before args0 about1) = true := by decide +kernel
set_option maxRecDepth 65536 in
theorem w_t5 : (((((words1.drop 24).drop 24).drop 24).drop 24).take 24).all (fun c => isCode c || c.before args0 about1) = true := by decide +kernel
set_option maxRecDepth 65536 in
theorem w_t6 : ((((((words1.drop 24).drop 24).drop 24).drop 24).drop 24).take 24).all (fun c => isCode c || c.before args0 about1) = true := by decide +kernel
set_option maxRecDepth 65536 in
theorem w_t7 : (((((((words1.drop 24).drop 24).drop 24).drop 24).drop 24).drop 24).take 24).all (fun c => isCode c || c.before args0 about1) = true := by decide +kernel
set_option maxRecDepth 65536 in
theorem w_t8 : ((((((((words1.drop 24).drop 24).drop 24).drop 24).drop 24).drop 24).drop 24).take 24).all (fun c => isCode c || c.before args0 about1) = true := by decide +kernel
set_option maxRecDepth 65536 in
theorem w_t9 : (((((((((words1.drop 24).drop 24).drop 24).drop 24).drop 24).drop 24).drop 24).drop 24).take 24).all (fun c => isCode c || c.before args0 about1) = true := by decide +kernel
set_option maxRecDepth 65536 in
theorem w_t10 : ((((((((((words1.drop 24).drop 24).drop 24).drop 24).drop 24).drop 24).drop 24).drop 24).drop 24).take 24).all (fun c => isCode c || c.before args0 about1) = true := by decide +kernel
set_option maxRecDepth 65536 in
theorem w_t11 : (((((((((((words1.drop 24).drop 24).drop 24).drop 24).drop 24).drop 24).drop 24).drop 24).drop 24).drop 24).take 24).all (fun c => isCode c || c.before args0 about1) = true := by decide +kernel
set_option maxRecDepth 65536 in
theorem w_t12 : (((((((((((words1.drop 24).drop 24).drop 24).drop 24).drop 24).drop 24).drop 24).drop 24).drop 24).drop 24).drop 24).all (fun c => isCode c || c.before args0 about1) = true := by decide +kernel
theorem w_tables : (allAtoms (Jvm.Cond.code x code maxLocals ret :: tables_1)).before args0 about1 = true := by
  rw [allAtoms_all]
  show words1.all (fun c => c.before args0 about1) = true
  refine all_split ?_ w_codes
  rw [← List.take_append_drop 24 words1, List.all_append, w_t1, ← List.take_append_drop 24 (words1.drop 24), List.all_append, w_t2, ← List.take_append_drop 24 ((words1.drop 24).drop 24), List.all_append, w_t3, ← List.take_append_drop 24 (((words1.drop 24).drop 24).drop 24), List.all_append, w_t4, ← List.take_append_drop 24 ((((words1.drop 24).drop 24).drop 24).drop 24), List.all_append, w_t5, ← List.take_append_drop 24 (((((words1.drop 24).drop 24).drop 24).drop 24).drop 24), List.all_append, w_t6, ← List.take_append_drop 24 ((((((words1.drop 24).drop 24).drop 24).drop 24).drop 24).drop 24), List.all_append, w_t7, ← List.take_append_drop 24 (((((((words1.drop 24).drop 24).drop 24).drop 24).drop 24).drop 24).drop 24), List.all_append, w_t8, ← List.take_append_drop 24 ((((((((words1.drop 24).drop 24).drop 24).drop 24).drop 24).drop 24).drop 24).drop 24), List.all_append, w_t9, ← List.take_append_drop 24 (((((((((words1.drop 24).drop 24).drop 24).drop 24).drop 24).drop 24).drop 24).drop 24).drop 24), List.all_append, w_t10, ← List.take_append_drop 24 ((((((((((words1.drop 24).drop 24).drop 24).drop 24).drop 24).drop 24).drop 24).drop 24).drop 24).drop 24), List.all_append, w_t11, w_t12]
  rfl
set_option maxRecDepth 65536 in
theorem w_rest : rest_1_c.before args0 about1 = true := by decide +kernel
set_option maxRecDepth 65536 in
theorem w_case : (Jvm.Cond.and given_1 narrow_1).before args0 about1 = true := by decide +kernel
set_option maxRecDepth 65536 in
theorem w_consts : constsHeld consts_1 about1 := Jvm.Lit.constsHeldB_iff.mp (by decide +kernel)
theorem w_applies : (headSpec (Jvm.Cond.code x code maxLocals ret :: tables_1) room_1).applies x e0.platform about1 = true :=
  (Spec.applies_iff w_frames).mpr ⟨w_running, w_runnable, w_alone, w_named, w_hears, w_ripe, w_room, w_tables⟩
theorem atStart : AtStart classFile x code maxLocals ret World_1 tables_1 room_1 Calls_1 rest_1 Pre_1 launch0 p0 e0 about1 theMethod args0 below0 :=
  ⟨lists_1, trivial, launch0.admits_env _ _ _, launch0.least_env, fairChoices_fair.cas, fairChoices_fair.clock, w_frames, w_args, w_heap, w_applies, ⟨w_consts, trivial⟩, w_rest, w_case⟩
end start1
theorem witness_1 : WitnessClaimed_1 := ⟨start1.p0, start1.e0, start1.about1, start1.theMethod, start1.args0, start1.below0, start1.atStart⟩
end Jvm.Pilot.@@N@@
